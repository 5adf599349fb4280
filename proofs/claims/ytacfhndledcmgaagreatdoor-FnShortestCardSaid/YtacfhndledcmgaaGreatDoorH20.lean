/- Lemmas for the law FnShortest: the law laws.FnShortest itself. Conditions: those in each theorem; none besides. -/
import Derived.Test.YtacfhndledcmgaaGreatDoorH19
import Derived.Test.YtacfhndledcmgaaGreatDoorH17
import Derived.Test.YtacfhndledcmgaaGreatDoorH16
import Derived.Test.YtacfhndledcmgaaGreatDoorH15
import Derived.Test.YtacfhndledcmgaaGreatDoorH8
import Derived.Deep.RegionHeld3
set_option linter.unusedVariables false
set_option linter.unusedSimpArgs false
namespace Go.Proofs.YtacfhndledcmgaaGreatDoor
open Go.RowKit
theorem cmp3_iff {a b : Nat} : cmp3 a b = 0 ↔ a = b := by
  unfold cmp3
  split
  · constructor <;> intro h <;> omega
  split
  · constructor <;> intro h <;> omega
  · constructor <;> intro h <;> omega
/-- A number whose odd part is not 1 lies above its highest power of two. -/
theorem not_two_pow {X m k : Nat} (h : X = m * 2 ^ k) (hm : m % 2 = 1) (h1 : m ≠ 1) (hX : X ≠ 0) : 2 ^ (blen X - 1) < X := by
  have hb := (blen_spec hX).2.1
  rcases Nat.lt_or_ge (2 ^ (blen X - 1)) X with h2 | h2
  · exact h2
  exfalso
  have he : m * 2 ^ k = 2 ^ (blen X - 1) := by omega
  generalize blen X - 1 = b at *
  have hp := Nat.two_pow_pos k
  rcases Nat.lt_or_ge b k with hk | hk
  · have h3 : 2 ^ b < 2 ^ k := Nat.pow_lt_pow_right (by decide) hk
    have h4 : 1 * 2 ^ k ≤ m * 2 ^ k := Nat.mul_le_mul_right _ (by omega)
    omega
  · obtain ⟨c, rfl⟩ : ∃ c, b = c + k := ⟨b - k, by omega⟩
    rw [Nat.pow_add] at he
    have h5 := Nat.eq_of_mul_eq_mul_right hp he
    cases c with
    | zero => exact h1 (by simpa using h5)
    | succ c => rw [Nat.pow_succ] at h5; omega
theorem blen16 {X m : Nat} (h : X < 65536 ^ m) : blen X ≤ 16 * m := by
  by_cases h0 : X = 0
  · rw [h0]; exact Nat.zero_le _
  · exact blen_le h0 (by rw [Nat.pow_mul]; exact h)
set_option maxRecDepth 100000 in
set_option maxHeartbeats 8000000 in
theorem law_FnShortest (P : Nat) (M F : Int) (n : Bool) (A : Option Addr) (c : Nat) (l : List Nat) (E : Int) (w : World) (hP : P < 18446744073709551616) (hr : RdU w A l) (hm : ∀ x ∈ l, x < WB) (hc : l.length ≤ c) (hg : Glob w) :
    Calls Tryz.prog 7 #[.agg #[.int .u64 P, .int .i64 M, .int .i64 F, .bool n, .slice A l.length c, .int .i64 E]] w fun e w' => e = .returned (.bool true) ∧ Chg No w w' := by
  obtain ⟨nl, hnl⟩ : ∃ nl, nl = l.length := ⟨_, rfl⟩
  have HZ := Lib.hid (fun W => zzFits1_any P M F n A nl c E W)
  have HRl : Hid (∀ W, Chg No w W → Calls Tryz.prog 19 #[.agg #[.int .u64 P, .int .i64 M, .int .i64 F, .bool n, .slice A nl c, .int .i64 E], .int .u64 100, .int .i64 200] W (RealOut 100 200 P M F E l W)) :=
    Lib.hid fun W hW => by have := laws_real 100 200 P M F n A c l E W hP (by decide) (by decide) (hr.chg hW) hm hc; rw [← hnl] at this; exact this
  have HOf : Hid (∀ W, Chg No w W → RealOk 100 200 P M E l → Calls Tryz.prog 20 #[.agg #[.int .u64 P, .int .i64 M, .int .i64 1, .bool n, .slice A nl c, .int .i64 E]] W fun e w' => ∃ r, e = .returned (.agg #[.bool n, r, .int .i64 E]) ∧ Sn w' r (Vl l) ∧ Chg No W w') :=
    Lib.hid fun W hW ho => by have := spec_OfReal P M n A c l E W (hr.chg hW) (by have := ho.2.2.2.2.1; have := ho.2.1; omega) hm hc; rw [← hnl] at this; exact this
  have HOn : Hid (∀ W, Chg No w W → RealOk 100 200 P M E l → Calls Tryz.prog 28 #[.slice A nl c] W (SnOut (Vl l) W)) :=
    Lib.hid fun W hW ho => by have := spec_Of A c l W (hr.chg hW) (by have := ho.2.2.2.2.1; have := ho.2.1; omega) hm hc; rw [← hnl] at this; exact this
  have HIn : Hid (∀ (qA : Option Addr) (qn qc N : Nat) (e : Int) (W : World), Chg No w W → RealOk 100 200 P M E l → Sn W (.slice qA qn qc) N → N < 65536 ^ 20 → -200 ≤ e → e ≤ 200 → OutOf (Vl l) E (E + blen (Vl l) - P - 1) N e →
      Calls Tryz.prog 40 #[.slice qA qn qc, .int .i64 e, .agg #[.int .u64 P, .int .i64 M, .int .i64 1, .bool n, .slice A nl c, .int .i64 E]] W fun e w' => e = .returned (.bool false) ∧ Chg No W w') :=
    Lib.hid fun qA qn qc N e W hW ho h1 h2 h3 h4 h5 => by have := laws_inside qA qn qc N e P M n A c l E W h1 h2 h3 h4 (hr.chg hW) hm hc ho h5; rw [← hnl] at this; exact this
  have HTx : Hid (∀ W, Chg No w W → RealOk 100 200 P M E l → 2 ≤ Vl l → Calls Tryz.prog 24 #[.agg #[.int .u64 P, .int .i64 M, .int .i64 1, .bool n, .slice A nl c, .int .i64 E], .int .u8 101, .int .i64 (-1)] W (TextOut (ShTxt n (Vl l) P E) W)) :=
    Lib.hid fun W hW ho h2 => by
      obtain ⟨m, rfl⟩ : ∃ m : Nat, M = (m : Int) := ⟨M.toNat, by have := ho.2.2.1; omega⟩
      have := text_s P m n A c l E W (hr.chg hW) hm (hg.no hW) ho h2; rw [← hnl] at this; exact this
  have K0 := Lib.hid ((Chg.refl No w).alloc (.cells #[.int .u64 P, .int .i64 M, .int .i64 F, .bool n, .slice A nl c, .int .i64 E] 43))
  have R0 : Hid (RealAt (w.alloc (.cells #[.int .u64 P, .int .i64 M, .int .i64 F, .bool n, .slice A nl c, .int .i64 E] 43)) w.heap.size P M F n A nl c E) :=
    Lib.hid ⟨World.cell?_alloc_new _ _ _ _, World.cell?_alloc_new _ _ _ _, World.cell?_alloc_new _ _ _ _, World.cell?_alloc_new _ _ _ _, World.cell?_alloc_new _ _ _ _, World.cell?_alloc_new _ _ _ _⟩
  rw [← hnl]
  clear hr hm hc hg hnl hP
  go_enter Tryz.func7, Tryz.ntmps7
  go_wp2_with fail
  refine (HZ.out _).mono ?_
  rintro e w1 ⟨b1, rfl, hk1⟩
  have K1 := Lib.hid (K0.out.then hk1 (fun _ _ _ f => f))
  have R1 := Lib.hid (R0.out.chg hk1)
  clear hk1
  cases b1
  · go_wp2_with fail
    go_ret
    exact ⟨rfl, K1.out⟩
  obtain ⟨c0, c1, c2, c3, c4, c5⟩ := R1.out
  go_wp2_with fail
  refine (HRl.out _ K1.out).mono ?_
  rintro e w2 ⟨b2, rfl, hok, hk2⟩
  have K2 := Lib.hid (K1.out.then hk2 (fun _ _ _ f => f))
  have R2 := Lib.hid (R1.out.chg hk2)
  clear hk2 c0 c1 c2 c3 c4 c5
  obtain ⟨c0, c1, c2, c3, c4, c5⟩ := R2.out
  cases b2
  · go_wp2_with fail
    go_ret
    exact ⟨rfl, K2.out⟩
  by_cases hF : F = 1
  · subst hF
    have HOK := Lib.hid (hok rfl rfl)
    obtain ⟨X, hX⟩ : ∃ X, X = Vl l := ⟨_, rfl⟩
    have HXE := Lib.hid hX
    have hXb : X < 65536 ^ 10 := by
      obtain ⟨o1, o2, o3, o4, o5, o6, o7, o8, o9⟩ := HOK.out
      rw [hX]
      exact b16 (Nat.lt_of_lt_of_le (blen_spec o6).2.2 (Nat.pow_le_pow_right (by decide) (by omega))) (by omega)
    have HXB := Lib.hid hXb
    clear hok hX hXb
    go_wp2_with fail
    refine (HOn.out _ K2.out HOK.out).mono ?_
    rintro e w3 ⟨r3, rfl, hr3, hk3⟩
    have K3 := Lib.hid (K2.out.then hk3 (fun _ _ _ f => f))
    have R3 := Lib.hid (R2.out.chg hk3)
    rw [← HXE.out] at hr3
    have HOd := Lib.hid (spec_Odd r3 X 10 w3 hr3 HXB.out (by decide) (by rw [HXE.out]; exact HOK.out.2.2.2.2.2.1))
    clear hr3 hk3 c0 c1 c2 c3 c4 c5
    go_wp2_with fail
    refine HOd.out.mono ?_
    rintro e w4 ⟨r4, mo, ko, rfl, hr4, ho1, ho2, ho3, hk4⟩
    have K4 := Lib.hid (K3.out.then hk4 (fun _ _ _ f => f))
    have R4 := Lib.hid (R3.out.chg hk4)
    have HO4 := Lib.hid (And.intro hr4 (And.intro ho1 (And.intro ho2 ho3)))
    have H1 := Lib.hid (spec_Small 1 w4 (by decide))
    clear hr4 ho1 ho2 ho3 hk4
    go_wp2_with fail
    refine H1.out.mono ?_
    rintro e w5 ⟨r5, rfl, hr5, hk5⟩
    have K5 := Lib.hid (K4.out.then hk5 (fun _ _ _ f => f))
    have R5 := Lib.hid (R4.out.chg hk5)
    have hmo : mo < 65536 ^ 10 := Nat.lt_of_le_of_lt (by rw [HO4.out.2.1]; exact Nat.le_mul_of_pos_right _ (Nat.two_pow_pos _)) HXB.out
    have HC := Lib.hid (spec_Cmp r4 r5 mo 1 10 w5 (HO4.out.1.chg hk5) hr5 hmo (by decide) (by decide))
    clear hr5 hk5 hmo
    go_wp2_with fail
    refine HC.out.mono ?_
    rintro e w6 ⟨rfl, hk6⟩
    have K6 := Lib.hid (K5.out.then hk6 (fun _ _ _ f => f))
    have R6 := Lib.hid (R5.out.chg hk6)
    clear hk6
    by_cases hmo1 : mo = 1
    · have t1 : (cmp3 mo 1 == 0) = true := by rw [beq_iff_eq]; exact cmp3_iff.2 hmo1
      clear hmo1
      go_wp2_with fail
      go_ret
      exact ⟨rfl, K6.out⟩
    · have t1 : (cmp3 mo 1 == 0) = false := beq_eq_false_iff_ne.2 (fun h => hmo1 (cmp3_iff.1 h))
      have hX0 : X ≠ 0 := by rw [HXE.out]; exact HOK.out.2.2.2.2.2.1
      have hnp := Lib.hid (not_two_pow HO4.out.2.1 HO4.out.2.2.1 hmo1 hX0)
      have hX2 : 2 ≤ Vl l := by
        rw [← HXE.out]
        have := hnp.out
        have hp := Nat.two_pow_pos (blen X - 1)
        omega
      clear hmo1 hX0
      obtain ⟨c0, c1, c2, c3, c4, c5⟩ := R6.out
      go_wp2_with fail
      refine (HTx.out _ K6.out HOK.out hX2).mono ?_
      rintro e w7 ⟨tl, htl, rfl, hk7⟩
      have K7 := Lib.hid (K6.out.then hk7 (fun _ _ _ f => f))
      have R7 := Lib.hid (R6.out.chg hk7)
      rw [← HXE.out] at htl
      obtain ⟨o1, o2, o3, o4, o5, o6, o7, o8, o9⟩ := HOK.out
      obtain ⟨fs, de, k, N, neg, D, ee, t, a1, a2, a3, a4, a5, a6, a7, a8, a9, a10, a11, a12, a13, a14, a15, a16, a17, a18, a19, a20⟩ := htl.pack hnp.out (by rw [HXE.out]; exact o7) (by omega) (by omega) (by omega)
      have HRd := spec_Read n fs de neg k w7 a2 a3 a1 (by omega) a4 a5
      rw [← a7, ← a6, a11] at HRd
      have HRd := Lib.hid HRd
      have HT := Lib.hid a8
      have HBX : Hid (blen X ≤ P) := Lib.hid (by rw [HXE.out]; exact o7)
      have HFL := Lib.hid (And.intro a9 a10)
      have HNB := Lib.hid (And.intro a12 (And.intro a13 (And.intro a18 (And.intro a19 a20))))
      clear htl a1 a2 a3 a4 a5 a6 a7 a8 a9 a10 a11 a12 a13 a18 a19 a20 hk7 o1 o3 o4 o5 o6 o7 hX2 c0 c1 c2 c3 c4 c5 HZ HRl HTx HOn
      go_wp2_with fail
      refine HRd.out.mono ?_
      rintro e w8 ⟨NA, Nn, Nc, rfl, hr8, hk8⟩
      have K8 := Lib.hid (K7.out.then hk8 (fun _ _ _ f => f))
      have R8 := Lib.hid (R7.out.chg hk8)
      have HN8 := Lib.hid hr8
      have g8 := Bk.new w8 #[.bool n, .int .i64 10, .slice NA Nn Nc, .int .i64 k, .int .i64 D, .bool false] 63
      have k9 := (Chg.refl No w8).alloc (.cells #[.bool n, .int .i64 10, .slice NA Nn Nc, .int .i64 k, .int .i64 D, .bool false] 63)
      have hz8 := hr8.zero_len'
      have hNn : ((Nn : Int) == 0) = false := beq_eq_false_iff_ne.2 (by have := hz8.1; have := HNB.out.1; omega)
      clear hr8 hk8 hz8
      go_upto_region 10 with fail
      have K9 := Lib.hid (K8.out.then k9 (fun _ _ _ f => f))
      have R9 := Lib.hid (R8.out.chg k9)
      have HN9 := Lib.hid (HN8.out.chg k9)
      have G9 := Lib.hid g8
      clear g8 k9
      generalize w8.alloc (.cells #[.bool n, .int .i64 10, .slice NA Nn Nc, .int .i64 k, .int .i64 D, .bool false] 63) = w9 at K9 R9 HN9 G9 ⊢
      obtain ⟨sb, hsb⟩ : ∃ sb, sb = w8.heap.size := ⟨_, rfl⟩
      rw [← hsb] at G9 ⊢
      clear hsb K8 R8 HN8 HRd
      have HKP : Hid (∀ W, Chg No w9 W → W.cell? ⟨w.heap.size, 0, none⟩ = some (.int .u64 P) ∧ W.cell? ⟨w.heap.size, 1, none⟩ = some (.int .i64 M) ∧ W.cell? ⟨w.heap.size, 2, none⟩ = some (.int .i64 1) ∧ W.cell? ⟨w.heap.size, 3, none⟩ = some (.bool n) ∧ W.cell? ⟨w.heap.size, 4, none⟩ = some (.slice A nl c) ∧ W.cell? ⟨w.heap.size, 5, none⟩ = some (.int .i64 E) ∧
          W.cell? ⟨sb, 0, none⟩ = some (.bool n) ∧ W.cell? ⟨sb, 2, none⟩ = some (.slice NA Nn Nc) ∧ W.cell? ⟨sb, 3, none⟩ = some (.int .i64 k) ∧ W.cell? ⟨sb, 4, none⟩ = some (.int .i64 D)) :=
        Lib.hid fun W hW => by
          obtain ⟨g0, g1, g2, g3, g4, g5⟩ := R9.out.chg hW
          have gg := G9.out.chg hW (fun _ f => f)
          exact ⟨g0, g1, g2, g3, g4, g5, gg.cell 0, gg.cell 2, gg.cell 3, gg.cell 4⟩
      have HFg : Hid (∀ W, Chg No w9 W → Calls Tryz.prog 32 #[.bool n, .slice NA Nn Nc, .int .i64 k, .int .i64 D] W fun e w' => e = .returned (.string (txt tl)) ∧ Chg No W w') := Lib.hid fun W hW =>
        (spec_Figures n _ N 20 k D W (HN9.out.chg hW) HNB.out.2.1 (by decide) (by omega) (by omega) (by omega)).mono fun e w' ⟨D', h1, _, h3, h4⟩ => ⟨by rw [HT.out, h3, figLen_unique h1 HFL.out.1], h4⟩
      have HDg : Hid (∀ W, Chg No w9 W → Calls Tryz.prog 33 #[.slice NA Nn Nc] W fun e w' => ∃ S : ByteArray, S.size = k + 1 ∧ e = .returned (.string S) ∧ Chg No W w') := Lib.hid fun W hW =>
        (spec_Digits _ N 20 W (HN9.out.chg hW) HNB.out.2.1 (by decide)).mono fun e w' ⟨D', h1, _, h3, h4⟩ => ⟨_, by rw [figLen_unique h1 HFL.out.2]; simp [txt, asc, digs_length, ByteArray.size], h3, h4⟩
      have zk : IntKind.i64.wrap ((k : Int) + 1) = (k : Int) + 1 := IntWalk.i64_in _ (by omega)
      have zk2 : (((k + 1 : Nat) : Int) != (k : Int) + 1) = false := by simp
      generalize txt tl = TS at HFg ⊢
      go_region_held3 (fun W => W.cell? ⟨w.heap.size, 3, none⟩ = some (.bool n) ∧ W.cell? ⟨sb, 0, none⟩ = some (.bool n) ∧ W.cell? ⟨sb, 2, none⟩ = some (.slice NA Nn Nc) ∧ W.cell? ⟨sb, 3, none⟩ = some (.int .i64 k) ∧ W.cell? ⟨sb, 4, none⟩ = some (.int .i64 D)) (first | assumption | (obtain ⟨-, -, -, q3, -, -, q6, q7, q8, q9⟩ := HKP.out _ (Chg.refl No w9).drew; exact ⟨q3, q6, q7, q8, q9⟩)) (first
        | (go_at_call 32; (with_reducible refine (HFg.out _ (Chg.refl No w9).drew).mono ?_); rintro e10 w10 ⟨rfl, hk10⟩; have KD10 := Lib.hid ((Chg.refl No w9).drew.then hk10 (fun _ _ _ f => f)); have hS10 : w10.cell? ⟨w.heap.size, 3, none⟩ = some (.bool n) ∧ w10.cell? ⟨sb, 0, none⟩ = some (.bool n) ∧ w10.cell? ⟨sb, 2, none⟩ = some (.slice NA Nn Nc) ∧ w10.cell? ⟨sb, 3, none⟩ = some (.int .i64 k) ∧ w10.cell? ⟨sb, 4, none⟩ = some (.int .i64 D) := (by obtain ⟨-, -, -, q3, -, -, q6, q7, q8, q9⟩ := HKP.out _ KD10.out; exact ⟨q3, q6, q7, q8, q9⟩); clear hk10)
        | (go_at_call 33; (with_reducible refine (HDg.out _ KD10.out).mono ?_); rintro e11 w11 ⟨S, hS, rfl, hk11⟩; have KD11 := Lib.hid (KD10.out.then hk11 (fun _ _ _ f => f)); have hS11 : w11.cell? ⟨w.heap.size, 3, none⟩ = some (.bool n) ∧ w11.cell? ⟨sb, 0, none⟩ = some (.bool n) ∧ w11.cell? ⟨sb, 2, none⟩ = some (.slice NA Nn Nc) ∧ w11.cell? ⟨sb, 3, none⟩ = some (.int .i64 k) ∧ w11.cell? ⟨sb, 4, none⟩ = some (.int .i64 D) := (by obtain ⟨-, -, -, q3, -, -, q6, q7, q8, q9⟩ := HKP.out _ KD11.out; exact ⟨q3, q6, q7, q8, q9⟩); clear hk11))
      all_goals
        obtain ⟨g0, g1, g2, g3, g4, g5, g6, g7, g8, g9⟩ := HKP.out _ KD11.out
        have z12 : IntKind.i64.wrap (D - (k : Int)) = ee := by rw [a15]; exact IntWalk.i64_in _ (by omega)
        have x6 : D - (k : Int) = ee := a15.symm
        have z13 : IntKind.i64.wrap ee = ee := IntWalk.i64_in _ (by omega)
        have HD15 := Lib.hid a15
        clear a15
        obtain ⟨ep, hep⟩ : ∃ ep, ep = ee.toNat := ⟨_, rfl⟩
        obtain ⟨en, hen⟩ : ∃ en, en = (-ee).toNat := ⟨_, rfl⟩
        have x1 : max ee 0 = (ep : Int) := by omega
        have x2 : max 0 ee = (ep : Int) := by omega
        have x3 : max (-ee) 0 = (en : Int) := by omega
        have x4 : max 0 (-ee) = (en : Int) := by omega
        have x5 : IntKind.i64.wrap (-ee) = -ee := IntWalk.i64_in _ (by omega)
        have hep2 : ep ≤ 200 := by omega
        have hen2 : en ≤ 200 := by omega
        have HEE := Lib.hid (And.intro hep hen)
        clear hS10 hS11 hep hen
        go_upto_region 13 with fail
        clear g0 g1 g2 g3 g4 g5 g6 g7 g8 g9
        have HP1 : Hid (∀ W, Calls Tryz.prog 35 #[.int .i64 10, .int .i64 ep] W (SnOut (10 ^ ep) W)) := Lib.hid fun W => spec_Power 10 ep W (by decide) (by decide) (by omega)
        have HP2 : Hid (∀ W, Calls Tryz.prog 35 #[.int .i64 10, .int .i64 en] W (SnOut (10 ^ en) W)) := Lib.hid fun W => spec_Power 10 en W (by decide) (by decide) (by omega)
        have HMl : Hid (∀ (p : Value) W, Chg No w9 W → Sn W p (10 ^ ep) → Calls Tryz.prog 34 #[.slice NA Nn Nc, p] W (SnOut (N * 10 ^ ep) W)) := Lib.hid fun p W hW hp =>
          spec_Mul _ p N (10 ^ ep) 70 W (HN9.out.chg hW) hp (Nat.lt_of_lt_of_le HNB.out.2.1 (Nat.pow_le_pow_right (by decide) (by decide))) (Nat.lt_of_le_of_lt (ten50 hep2) (Nat.pow_lt_pow_right (by decide) (by decide))) (by decide)
        have hAb : N * 10 ^ ep < 65536 ^ 70 := by
          have h1 := HNB.out.2.1
          have h3 : (65536 : Nat) ^ (20 + 50) = 65536 ^ 20 * 65536 ^ 50 := Nat.pow_add _ _ _
          have h4 : N * 10 ^ ep < 65536 ^ 20 * 65536 ^ 50 := Nat.lt_of_lt_of_le (Nat.mul_lt_mul_of_pos_right h1 (ten_pos _)) (Nat.mul_le_mul_left _ (ten50 hep2))
          rw [← h3] at h4; exact h4
        have hBb : 10 ^ en < 65536 ^ 70 := Nat.lt_of_le_of_lt (ten50 hen2) (Nat.pow_lt_pow_right (by decide) (by decide))
        obtain ⟨AA, hAA⟩ : ∃ AA, AA = N * 10 ^ ep := ⟨_, rfl⟩
        obtain ⟨BB, hBB⟩ : ∃ BB, BB = 10 ^ en := ⟨_, rfl⟩
        have hB0 : BB ≠ 0 := by rw [hBB]; exact Nat.ne_of_gt (ten_pos _)
        rw [← hAA] at hAb HMl
        rw [← hBB] at hBb HP2
        obtain ⟨kk, hkk⟩ : ∃ kk : Nat, (kk : Int) = max 0 (((P + 1 : Nat) : Int) + 1 + blen BB - blen AA) := ⟨(max 0 (((P + 1 : Nat) : Int) + 1 + blen BB - blen AA)).toNat, by omega⟩
        have HRB := HNB.out.2.2.2.1 kk
        rw [← HEE.out.1, ← HEE.out.2, ← hAA, ← hBB] at HRB
        obtain ⟨s, hs1, hs2, hs3, hs4⟩ := HRB (by omega)
        have hbA : blen AA ≤ 1120 := blen16 hAb
        have hbB : blen BB ≤ 1120 := blen16 hBb
        have hkk2 : kk ≤ 1300 := by omega
        have HAB := Lib.hid (And.intro hAb (And.intro hBb (And.intro hB0 (And.intro hkk (And.intro hs1 (And.intro hs2 (And.intro hs3 hs4)))))))
        clear hAb hBb hB0 hkk HRB hs1 hs2 hs3 hs4 hbA hbB hAA hBB
        go_cut [9, 10] (fun av bv wx => ∃ A1 An Ac B1 Bn Bc, av = .slice A1 An Ac ∧ bv = .slice B1 Bn Bc ∧ Hid (Sn wx (.slice A1 An Ac) AA ∧ Sn wx (.slice B1 Bn Bc) BB) ∧ Hid (Chg No w9 wx))
        case first =>
          go_wp2_with fail
          go_region_held3 (fun W => W.cell? ⟨sb, 2, none⟩ = some (.slice NA Nn Nc)) (first | assumption | exact (HKP.out _ KD11.out.drew).2.2.2.2.2.2.2.1) (first
            | (go_at_call 35; (with_reducible refine (HP1.out _).mono ?_); rintro e12 w12 ⟨p12, rfl, hp12, hk12⟩; have KD12 := Lib.hid (KD11.out.drew.then hk12 (fun _ _ _ f => f)); have HP12 := Lib.hid hp12; have hS12 : w12.cell? ⟨sb, 2, none⟩ = some (.slice NA Nn Nc) := (HKP.out _ KD12.out).2.2.2.2.2.2.2.1; clear hk12 hp12 HP1)
            | (go_at_call 34; (with_reducible refine (HMl.out _ _ KD12.out HP12.out).mono ?_); rintro e13 w13 ⟨p13, rfl, hp13, hk13⟩; have KD13 := Lib.hid (KD12.out.then hk13 (fun _ _ _ f => f)); have HP13 := Lib.hid hp13; have hS13 : w13.cell? ⟨sb, 2, none⟩ = some (.slice NA Nn Nc) := (HKP.out _ KD13.out).2.2.2.2.2.2.2.1; clear hk13 hp13 HMl)
            | (go_at_call 35; (with_reducible refine (HP2.out _).mono ?_); rintro e14 w14 ⟨p14, rfl, hp14, hk14⟩; have KD14 := Lib.hid (KD13.out.then hk14 (fun _ _ _ f => f)); have HP14 := Lib.hid (And.intro (HP13.out.chg hk14) hp14); have hS14 : w14.cell? ⟨sb, 2, none⟩ = some (.slice NA Nn Nc) := (HKP.out _ KD14.out).2.2.2.2.2.2.2.1; clear hk14 hp14 HP2))
          all_goals
            obtain ⟨A1, An, Ac, rfl⟩ := HP14.out.1.slc'
            obtain ⟨B1, Bn, Bc, rfl⟩ := HP14.out.2.slc'
            go_wp2_with fail
            go_meet
            exact ⟨A1, An, Ac, B1, Bn, Bc, rfl, rfl, HP14, KD14⟩
        case rest =>
          obtain ⟨A1, An, Ac, B1, Bn, Bc, rfl, rfl, HAB1, KDA⟩ := hcut
          generalize wc = wa at *
          clear HP1 HP2 HMl
          obtain ⟨Q, hQ⟩ : ∃ Q, Q = stq (AA * 2 ^ kk) BB := ⟨_, rfl⟩
          have H37 : Hid (∀ W, Chg No wa W → Calls Tryz.prog 37 #[.agg #[.bool false, .slice A1 An Ac, .int .i64 0], .agg #[.bool false, .slice B1 Bn Bc, .int .i64 0], .int .i64 ((P : Int) + 1)] W (AheadOut AA BB kk W)) := Lib.hid fun W hW => by
            have := spec_Ahead0 A1 An Ac B1 Bn Bc AA BB (P + 1) kk 70 W (HAB1.out.1.chg hW) (HAB1.out.2.chg hW) HAB.out.1 HAB.out.2.1 HAB.out.2.2.1 (by decide) (by omega) HAB.out.2.2.2.1
            rw [show ((P + 1 : Nat) : Int) = (P : Int) + 1 by omega] at this
            exact this
          obtain ⟨sr, hsr⟩ : ∃ sr, sr = s := ⟨_, rfl⟩
          have H36 : Hid (∀ (qA : Option Addr) (qn qc : Nat) W, Sn W (.slice qA qn qc) Q → Calls Tryz.prog 36 #[.agg #[.bool false, .slice qA qn qc, .int .i64 (-(kk : Int) - 1)], .int .i64 P, .int .i64 0] W fun e w' => ∃ (q : Value) (a : Int), e = .returned (.tuple #[.agg #[.bool false, q, .int .i64 (t + 1)], .int .i64 a]) ∧ Sn w' q (X * 2 ^ (P - blen X)) ∧ Chg No W w') := Lib.hid fun qA qn qc W h => by
            obtain ⟨r1, r2, r3, r4, s1, s2, s3, s4⟩ := HAB.out
            have hQb : Q < 65536 ^ 200 := by
              by_cases h0 : Q = 0
              · rw [h0]; exact Nat.pow_pos (by decide)
              · have h1 := (blen_spec h0).2.2
                obtain ⟨T, hT⟩ : ∃ T : Nat, T = 200 := ⟨_, rfl⟩
                rw [← hT, show (65536 : Nat) = 2 ^ 16 by decide, ← Nat.pow_mul]
                exact Nat.lt_of_lt_of_le h1 (Nat.pow_le_pow_right (by decide) (by rw [hQ, s3]; have := HNB.out.2.2.1; have := HBX.out; omega))
            have := spec_Round0 qA qn qc Q P s 200 (-(kk : Int) - 1) W h hQb (by decide) (by omega) (by rw [hQ]; exact s3) (by omega) (by omega)
            refine this.mono ?_
            rintro e w' ⟨q, a, h1, h2, h3⟩
            rw [hQ, s4] at h2
            rw [show -(kk : Int) - 1 + (s : Int) = t + 1 by omega] at h1
            exact ⟨q, a, h1, h2, h3⟩
          have HQ := Lib.hid hQ
          have zP : IntKind.i64.wrap ((P : Int) + 1) = (P : Int) + 1 := IntWalk.i64_in _ (by omega)
          have zP0 : IntKind.i64.wrap (P : Int) = (P : Int) := IntWalk.i64_in _ (by omega)
          clear hQ hsr
          go_upto_region 14 with fail
          go_cut [11] (fun pv wx => ∃ (fb : Nat) (qA : Option Addr) (qn qc : Nat), pv = .pointer (some ⟨fb, 0, none⟩) ∧ Hid (Bk wx fb #[.bool false, .slice qA qn qc, .int .i64 (t + 1)]) ∧ Hid (Sn wx (.slice qA qn qc) (X * 2 ^ (P - blen X))) ∧ Hid (Chg No w9 wx) ∧ Hid (w9.heap.size ≤ fb) ∧ Hid (∀ (ad : Addr) (n c : Nat), Value.slice qA qn qc = .slice (some ad) n c → n = 0 ∨ ad.block ≠ fb))
          case first =>
            go_wp2_with fail
            have hbl0 : w.heap.size < wa.heap.size := World.block_lt_of_cell? _ _ (HKP.out _ KDA.out).1
            go_region_held3 (fun W => W.cell? ⟨w.heap.size, 0, none⟩ = some (.int .u64 P)) (first | (rw [cell_setCell_ne _ _ _ _ _ _ (.inl (by omega)), cell_setCell_ne _ _ _ _ _ _ (.inl (by omega)), cell_setCell_ne _ _ _ _ _ _ (.inl (by omega))]; exact hS16) | assumption | exact (HKP.out _ KDA.out.drew).1 | exact (HKP.out _ (KDA.out.alloc _).drew).1 | exact (HKP.out _ (KDA.out.alloc _)).1 | exact (HKP.out _ (KD15.out.alloc _)).1 | exact (HKP.out _ (KD16.out.alloc _)).1) (first
              | (go_at_call 37; (with_reducible refine (H37.out _ (Chg.refl No wa).drew).mono ?_); rintro e15 w15 ⟨q15, rfl, hq15, hk15⟩; have KD15 := Lib.hid (KDA.out.drew.then hk15 (fun _ _ _ f => f)); obtain ⟨q15A, q15n, q15c, rfl⟩ := hq15.slc'; rw [← HQ.out] at hq15; have HQ15 := Lib.hid hq15; have hS15 : w15.cell? ⟨w.heap.size, 0, none⟩ = some (.int .u64 P) := (HKP.out _ KD15.out).1; have hbl1 : w.heap.size < w15.heap.size := World.block_lt_of_cell? _ _ hS15; clear hk15 hq15)
              | (go_at_call 37; (with_reducible refine (H37.out _ ((Chg.refl No wa).alloc _).drew).mono ?_); rintro e15 w15 ⟨q15, rfl, hq15, hk15⟩; have KD15 := Lib.hid ((KDA.out.alloc _).drew.then hk15 (fun _ _ _ f => f)); have BK15 : Hid (Bk w15 wa.heap.size #[.bool false, .slice none 0 0, .int .i64 0]) := Lib.hid (Bk.chg (S := No) (Bk.new wa #[.bool false, .slice none 0 0, .int .i64 0] 47) ((Chg.refl No (wa.alloc (.cells #[.bool false, .slice none 0 0, .int .i64 0] 47))).drew.then hk15 (fun _ _ _ f => f)) (fun _ f => f)); obtain ⟨q15A, q15n, q15c, rfl⟩ := hq15.slc'; rw [← HQ.out] at hq15; have HQ15 := Lib.hid hq15; have hS15 : w15.cell? ⟨w.heap.size, 0, none⟩ = some (.int .u64 P) := (HKP.out _ KD15.out).1; clear hk15 hq15)
              | (go_at_call 36; (with_reducible refine (H36.out _ _ _ w15 HQ15.out).mono ?_); rintro e16 w16 ⟨q16, a16', rfl, hq16, hk16⟩; have KD16 := Lib.hid (KD15.out.then hk16 (fun _ _ _ f => f)); (try (have g16 : Bk w16 wa.heap.size #[.bool false, .slice none 0 0, .int .i64 0] := Bk.chg (S := No) BK15.out hk16 (fun _ f => f); have BK16 := Lib.hid g16; have b0 : w16.cell? ⟨wa.heap.size, 0, none⟩ = some (.bool false) := g16.cell 0; have b1 : w16.cell? ⟨wa.heap.size, 1, none⟩ = some (.slice none 0 0) := g16.cell 1; have b2 : w16.cell? ⟨wa.heap.size, 2, none⟩ = some (.int .i64 0) := g16.cell 2; have f0 := g16.plain.free 0; have f1 := g16.plain.free 1; have f2 := g16.plain.free 2; clear g16)); obtain ⟨q16A, q16n, q16c, rfl⟩ := hq16.slc'; have HQ16 := Lib.hid hq16; have hS16 : w16.cell? ⟨w.heap.size, 0, none⟩ = some (.int .u64 P) := (HKP.out _ KD16.out).1; clear hk16 hq16)
              | (go_at_call 36; (with_reducible refine (H36.out _ _ _ (w15.alloc _) (HQ15.out.chg ((Chg.refl No w15).alloc _))).mono ?_); rintro e16 w16 ⟨q16, a16', rfl, hq16, hk16⟩; have KD16 := Lib.hid ((KD15.out.alloc _).then hk16 (fun _ _ _ f => f)); have g16 : Bk w16 w15.heap.size #[.bool false, .slice none 0 0, .int .i64 0] := Bk.chg (S := No) (Bk.new w15 #[.bool false, .slice none 0 0, .int .i64 0] 47) hk16 (fun _ f => f); have BK16 := Lib.hid g16; have b0 : w16.cell? ⟨w15.heap.size, 0, none⟩ = some (.bool false) := g16.cell 0; have b1 : w16.cell? ⟨w15.heap.size, 1, none⟩ = some (.slice none 0 0) := g16.cell 1; have b2 : w16.cell? ⟨w15.heap.size, 2, none⟩ = some (.int .i64 0) := g16.cell 2; have f0 := g16.plain.free 0; have f1 := g16.plain.free 1; have f2 := g16.plain.free 2; clear g16; obtain ⟨q16A, q16n, q16c, rfl⟩ := hq16.slc'; have HQ16 := Lib.hid hq16; have hS16 : w16.cell? ⟨w.heap.size, 0, none⟩ = some (.int .u64 P) := (HKP.out _ KD16.out).1; clear hk16 hq16))
            all_goals
              go_wp2_with fail
              go_meet
              first
                | exact ⟨_, q16A, q16n, q16c, rfl, Lib.hid (Bk.new _ _ _), Lib.hid (HQ16.out.chg ((Chg.refl No w16).alloc _)), Lib.hid (KD16.out.alloc _), Lib.hid KD16.out.size, Lib.hid (HQ16.out.old (Nat.le_refl _))⟩
                | (have ks := BK16.out.st3_chg (noWB_bool _) (noWB_slice _ _ _) (noWB_int _) (.bool false) (.slice q16A q16n q16c) (.int .i64 (t + 1))
                   exact ⟨_, q16A, q16n, q16c, rfl, Lib.hid (BK16.out.st3 _ _ _), Lib.hid (HQ16.out.other ks (BK16.out.safe zero47 HQ16.out)), Lib.hid (KD16.out.then ks (fun y o hy f => by first | (have h : y = wa.heap.size := f; have := KDA.out.size; omega) | (have h : y = w15.heap.size := f; have := KD15.out.size; omega))), Lib.hid (by first | exact KDA.out.size | exact KD15.out.size), Lib.hid (BK16.out.safe zero47 HQ16.out)⟩)
          case rest =>
            obtain ⟨fb, qA, qn, qc, rfl, BKF, SNF, KDB, hfb, HSF⟩ := hcut
            generalize wc = wb at *
            have c3 := (HKP.out _ KDB.out).2.2.2.1
            have f0 := BKF.out.cell 0
            have ff := BKF.out.plain.free 0
            simp only [List.getElem?_toArray, List.getElem?_cons_zero] at f0
            go_upto_region 16 with fail
            have ks := BKF.out.set_chg 0 (.bool n) rfl (noWB_bool _)
            have KDC := Lib.hid (KDB.out.then ks (fun y o hy f => by have h : y = fb := f; have := hfb.out; omega))
            have bkc := BKF.out.set 0 (.bool n)
            simp only [List.setIfInBounds_toArray, List.set_cons_zero] at bkc
            have BKC := Lib.hid bkc
            have SNC := Lib.hid (SNF.out.other ks HSF.out)
            clear c3 f0 ff ks bkc H37 H36
            generalize wb.setCell ⟨fb, 0, none⟩ (.bool n) = wq at KDC BKC SNC ⊢
            have HKQ : Hid (∀ W, Chg No wq W → (W.cell? ⟨w.heap.size, 0, none⟩ = some (.int .u64 P) ∧ W.cell? ⟨w.heap.size, 1, none⟩ = some (.int .i64 M) ∧ W.cell? ⟨w.heap.size, 2, none⟩ = some (.int .i64 1) ∧ W.cell? ⟨w.heap.size, 3, none⟩ = some (.bool n) ∧ W.cell? ⟨w.heap.size, 4, none⟩ = some (.slice A nl c) ∧ W.cell? ⟨w.heap.size, 5, none⟩ = some (.int .i64 E)) ∧
                W.cell? ⟨fb, 0, none⟩ = some (.bool n) ∧ W.cell? ⟨fb, 1, none⟩ = some (.slice qA qn qc) ∧ W.cell? ⟨fb, 2, none⟩ = some (.int .i64 (t + 1))) :=
              Lib.hid fun W hW => by
                obtain ⟨g0, g1, g2, g3, g4, g5, -⟩ := HKP.out _ (KDC.out.then hW (fun _ _ _ f => f))
                have gg := BKC.out.chg hW (fun _ f => f)
                exact ⟨⟨g0, g1, g2, g3, g4, g5⟩, gg.cell 0, gg.cell 1, gg.cell 2⟩
            have H38 : Hid (∀ (rA : Option Addr) (rn rc : Nat) W, Chg No wq W → Sn W (.slice rA rn rc) X → Calls Tryz.prog 38 #[.agg #[.bool n, .slice qA qn qc, .int .i64 (t + 1)], .agg #[.bool n, .slice rA rn rc, .int .i64 E]] W fun e w' => e = .returned (.int .i64 0) ∧ Chg No W w') := Lib.hid fun rA rn rc W hW h => by
              have ht := HNB.out.2.2.1
              have hbx := HBX.out
              have hX0 : X ≠ 0 := by rw [HXE.out]; exact HOK.out.2.2.2.2.2.1
              have hxp : X * 2 ^ (P - blen X) < 65536 ^ 10 := by
                have h1 := (blen_spec hX0).2.2
                have h2 : X * 2 ^ (P - blen X) < 2 ^ blen X * 2 ^ (P - blen X) := Nat.mul_lt_mul_of_pos_right h1 (Nat.two_pow_pos _)
                rw [← Nat.pow_add, show blen X + (P - blen X) = P by omega] at h2
                exact b16 h2 (by omega)
              exact spec_Order_eq n qA qn qc rA rn rc (X * 2 ^ (P - blen X)) X (P - blen X) 10 (t + 1) E W (SNC.out.chg hW) h hxp HXB.out (by decide) (by omega) rfl (by omega) (by omega)
            go_region_held3 (fun W => (W.cell? ⟨w.heap.size, 0, none⟩ = some (.int .u64 P) ∧ W.cell? ⟨w.heap.size, 1, none⟩ = some (.int .i64 M) ∧ W.cell? ⟨w.heap.size, 2, none⟩ = some (.int .i64 1) ∧ W.cell? ⟨w.heap.size, 3, none⟩ = some (.bool n) ∧ W.cell? ⟨w.heap.size, 4, none⟩ = some (.slice A nl c) ∧ W.cell? ⟨w.heap.size, 5, none⟩ = some (.int .i64 E)) ∧
                W.cell? ⟨fb, 0, none⟩ = some (.bool n) ∧ W.cell? ⟨fb, 1, none⟩ = some (.slice qA qn qc) ∧ W.cell? ⟨fb, 2, none⟩ = some (.int .i64 (t + 1))) (first | assumption | exact HKQ.out _ (Chg.refl No wq).drew) (first
              | (go_at_call 20; (with_reducible refine (HOf.out _ (K9.out.then KDC.out.drew (fun _ _ _ f => f)) HOK.out).mono ?_); rintro e17 w17 ⟨r17, rfl, hr17, hk17⟩; obtain ⟨r17A, r17n, r17c, rfl⟩ := hr17.slc'; rw [← HXE.out] at hr17; have KQ17 := Lib.hid ((Chg.refl No wq).drew.then hk17 (fun _ _ _ f => f)); have HR17 := Lib.hid hr17; have hS17 := HKQ.out w17 KQ17.out; clear hr17 hk17)
              | (go_at_call 38; (with_reducible refine (H38.out _ _ _ w17 KQ17.out HR17.out).mono ?_); rintro e18 w18 ⟨rfl, hk18⟩; have KQ18 := Lib.hid (KQ17.out.then hk18 (fun _ _ _ f => f)); have hS18 := HKQ.out w18 KQ18.out; clear hk18))
            all_goals
              have KD18 := Lib.hid (KDC.out.then KQ18.out (fun _ _ _ f => f))
              clear hS17 hS18 HKQ H38 HOf KQ17 KQ18
              have s3 := (HKP.out _ KD18.out).2.2.2.2.2.2.2.2.1
              by_cases hk0 : k = 0
              · have tk : ((k : Int) == 0) = true := by rw [hk0]; rfl
                go_wp2_with fail
                go_ret
                exact ⟨rfl, K9.out.then KD18.out (fun _ _ _ f => f)⟩
              have tk : ((k : Int) == 0) = false := beq_eq_false_iff_ne.2 (by omega)
              have hOO := HNB.out.2.2.2.2 (by omega)
              rw [HNB.out.2.2.1, HXE.out] at hOO
              have hN20 := HNB.out.2.1
              have h20 : (65536 : Nat) ^ 20 = 65536 ^ 19 * 65536 := Nat.pow_succ _ _
              have hq1 : N / 10 < 65536 ^ 20 := Nat.lt_of_le_of_lt (Nat.div_le_self _ _) hN20
              have hq2 : N / 10 + 1 < 65536 ^ 20 := by
                have : 0 < 65536 ^ 19 := Nat.pow_pos (by decide)
                have : N / 10 ≤ 65536 ^ 19 * 65536 / 10 := Nat.div_le_div_right (by omega)
                generalize (65536 : Nat) ^ 19 = T at *
                omega
              have z21 : IntKind.i64.wrap (ee + 1) = ee + 1 := IntWalk.i64_in _ (by omega)
              have HI1 : Hid (∀ (yA : Option Addr) (yn yc : Nat) W, Chg No w9 W → Sn W (.slice yA yn yc) (N / 10) → Calls Tryz.prog 40 #[.slice yA yn yc, .int .i64 (ee + 1), .agg #[.int .u64 P, .int .i64 M, .int .i64 1, .bool n, .slice A nl c, .int .i64 E]] W fun e w' => e = .returned (.bool false) ∧ Chg No W w') := Lib.hid fun yA yn yc W hW h =>
                HIn.out yA yn yc (N / 10) (ee + 1) W (K9.out.then hW (fun _ _ _ f => f)) HOK.out h hq1 (by omega) (by omega) hOO.1
              have HI2 : Hid (∀ (yA : Option Addr) (yn yc : Nat) W, Chg No w9 W → Sn W (.slice yA yn yc) (N / 10 + 1) → Calls Tryz.prog 40 #[.slice yA yn yc, .int .i64 (ee + 1), .agg #[.int .u64 P, .int .i64 M, .int .i64 1, .bool n, .slice A nl c, .int .i64 E]] W fun e w' => e = .returned (.bool false) ∧ Chg No W w') := Lib.hid fun yA yn yc W hW h =>
                HIn.out yA yn yc (N / 10 + 1) (ee + 1) W (K9.out.then hW (fun _ _ _ f => f)) HOK.out h hq2 (by omega) (by omega) hOO.2
              have HDM : Hid (∀ (y : Value) W, Chg No w9 W → Sn W y 10 → Calls Tryz.prog 39 #[.slice NA Nn Nc, y] W (DmOut N 10 W)) := Lib.hid fun y W hW h => spec_DivMod _ y N 10 20 W (HN9.out.chg hW) h hN20 (show _ < 65536 ^ 20 by decide) (by decide) (by decide)
              have HAD : Hid (∀ (x y : Value) W, Sn W x (N / 10) → Sn W y 1 → Calls Tryz.prog 41 #[x, y] W (SnOut (N / 10 + 1) W)) := Lib.hid fun x y W hx hy => spec_Add x y (N / 10) 1 20 W hx hy hq1 (show _ < 65536 ^ 20 by decide) (by decide)
              have HS10 : Hid (∀ W, Calls Tryz.prog 30 #[.int .i64 10] W (SnOut 10 W)) := Lib.hid fun W => spec_Small 10 W (by decide)
              have HS1 : Hid (∀ W, Calls Tryz.prog 30 #[.int .i64 1] W (SnOut 1 W)) := Lib.hid fun W => spec_Small 1 W (by decide)
              obtain ⟨QT, hQT⟩ : ∃ QT, QT = N / 10 := ⟨_, rfl⟩
              rw [← hQT] at HI1 HI2 HAD
              have HQT := Lib.hid hQT
              clear hQT hOO hN20 h20 hq1 hq2 hk0 HIn
              go_upto_region 20 with fail
              clear s3
              go_region_held3 (fun W => W.cell? ⟨sb, 2, none⟩ = some (.slice NA Nn Nc)) (first | assumption | exact (HKP.out _ KD18.out.drew).2.2.2.2.2.2.2.1) (first
                | (go_at_call 30; (with_reducible refine (HS10.out _).mono ?_); rintro e19 w19 ⟨r19, rfl, hr19, hk19⟩; have KD19 := Lib.hid (KD18.out.drew.then hk19 (fun _ _ _ f => f)); have HR19 := Lib.hid hr19; have hS19 : w19.cell? ⟨sb, 2, none⟩ = some (.slice NA Nn Nc) := (HKP.out _ KD19.out).2.2.2.2.2.2.2.1; clear hr19 hk19)
                | (go_at_call 39; (with_reducible refine (HDM.out _ w19 KD19.out HR19.out).mono ?_); rintro e20 w20 ⟨q20, m20, rfl, hq20, hm20, hk20⟩; have KD20 := Lib.hid (KD19.out.then hk20 (fun _ _ _ f => f)); rw [← HQT.out] at hq20; have HQ20 := Lib.hid hq20; have hS20 : w20.cell? ⟨sb, 2, none⟩ = some (.slice NA Nn Nc) := (HKP.out _ KD20.out).2.2.2.2.2.2.2.1; clear hq20 hm20 hk20))
              all_goals
                obtain ⟨q20A, q20n, q20c, rfl⟩ := HQ20.out.slc'
                clear hS19 hS20 HDM HS10
                have HKR : Hid (∀ W, Chg No w9 W → W.cell? ⟨w.heap.size, 0, none⟩ = some (.int .u64 P) ∧ W.cell? ⟨w.heap.size, 1, none⟩ = some (.int .i64 M) ∧ W.cell? ⟨w.heap.size, 2, none⟩ = some (.int .i64 1) ∧ W.cell? ⟨w.heap.size, 3, none⟩ = some (.bool n) ∧ W.cell? ⟨w.heap.size, 4, none⟩ = some (.slice A nl c) ∧ W.cell? ⟨w.heap.size, 5, none⟩ = some (.int .i64 E)) := Lib.hid fun W hW => by
                  obtain ⟨g0, g1, g2, g3, g4, g5, -⟩ := HKP.out _ hW
                  exact ⟨g0, g1, g2, g3, g4, g5⟩
                go_upto_region 21 with fail
                go_region_held3 (fun W => W.cell? ⟨w.heap.size, 0, none⟩ = some (.int .u64 P) ∧ W.cell? ⟨w.heap.size, 1, none⟩ = some (.int .i64 M) ∧ W.cell? ⟨w.heap.size, 2, none⟩ = some (.int .i64 1) ∧ W.cell? ⟨w.heap.size, 3, none⟩ = some (.bool n) ∧ W.cell? ⟨w.heap.size, 4, none⟩ = some (.slice A nl c) ∧ W.cell? ⟨w.heap.size, 5, none⟩ = some (.int .i64 E)) (first | assumption | exact HKR.out _ KD20.out.drew) (first
                  | (go_at_call 40; (with_reducible refine (HI1.out _ _ _ _ KD20.out.drew (HQ20.out.chg (Chg.refl No w20).drew)).mono ?_); rintro e21 w21 ⟨rfl, hk21⟩; have HQ21 := Lib.hid (HQ20.out.chg ((Chg.refl No w20).drew.then hk21 (fun _ _ _ f => f))); have KD21 := Lib.hid (KD20.out.drew.then hk21 (fun _ _ _ f => f)); have hS21 := HKR.out w21 KD21.out; clear hk21)
                  | (go_at_call 30; (with_reducible refine (HS1.out _).mono ?_); rintro e22 w22 ⟨r22, rfl, hr22, hk22⟩; have KD22 := Lib.hid (KD21.out.then hk22 (fun _ _ _ f => f)); have HQ22 := Lib.hid (And.intro (HQ21.out.chg hk22) hr22); have hS22 := HKR.out w22 KD22.out; clear hr22 hk22)
                  | (go_at_call 41; (with_reducible refine (HAD.out _ _ w22 HQ22.out.1 HQ22.out.2).mono ?_); rintro e23 w23 ⟨r23, rfl, hr23, hk23⟩; obtain ⟨r23A, r23n, r23c, rfl⟩ := hr23.slc'; have KD23 := Lib.hid (KD22.out.then hk23 (fun _ _ _ f => f)); have HQ23 := Lib.hid hr23; have hS23 := HKR.out w23 KD23.out; clear hr23 hk23)
                  | (go_at_call 40; (with_reducible refine (HI2.out _ _ _ w23 KD23.out HQ23.out).mono ?_); rintro e24 w24 ⟨rfl, hk24⟩; have KD24 := Lib.hid (KD23.out.then hk24 (fun _ _ _ f => f)); have hS24 := HKR.out w24 KD24.out; clear hk24))
                all_goals
                  go_wp2_with fail
                  go_ret
                  exact ⟨rfl, K9.out.then KD24.out (fun _ _ _ f => f)⟩
  · have t1 : (F == 1) = false := beq_eq_false_iff_ne.2 hF
    have t2 : (F != 1) = true := by simp [bne, t1]
    clear hok hF
    go_wp2_with fail
    go_ret
    exact ⟨rfl, K2.out⟩
end Go.Proofs.YtacfhndledcmgaaGreatDoor
