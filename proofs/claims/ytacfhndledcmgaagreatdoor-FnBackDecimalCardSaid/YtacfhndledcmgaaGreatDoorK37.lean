/- Lemmas for the law FnBackDecimal: the law itself. Conditions: those in each theorem; none besides. -/
import Derived.Test.YtacfhndledcmgaaGreatDoorK36
import Derived.Test.YtacfhndledcmgaaGreatDoorK30
import Derived.Test.YtacfhndledcmgaaGreatDoorK21
import Derived.Deep.RegionHeld3
set_option linter.unusedVariables false
set_option linter.unusedSimpArgs false
namespace Go.Proofs.YtacfhndledcmgaaGreatDoor
open Go.RowKit
set_option maxRecDepth 100000 in
set_option maxHeartbeats 8000000 in
theorem law_FnBackDecimal (P : Nat) (M F : Int) (n : Bool) (A : Option Addr) (c : Nat) (l : List Nat) (E : Int) (k : Nat) (eo : Addr) (w : World) (hP : P < 18446744073709551616) (hr : RdU w A l) (hm : ∀ x ∈ l, x < WB) (hc : l.length ≤ c) (hk : k < 256) (hg : Glob w) (h5 : P5 w) (hE0 : w.cell? ⟨0, 0, none⟩ = some (.iface 245 (.pointer (some eo)))) :
    Calls Tryz.prog 9 #[.agg #[.int .u64 P, .int .i64 M, .int .i64 F, .bool n, .slice A l.length c, .int .i64 E], .int .u8 k] w fun e w' => e = .returned (.bool true) ∧ Chg No w w' := by
  obtain ⟨nl, hnl⟩ : ∃ nl, nl = l.length := ⟨_, rfl⟩
  have HZ := Lib.hid (fun W => zzFits1_any P M F n A nl c E W)
  have HRl : Hid (∀ W, Chg No w W → Calls Tryz.prog 19 #[.agg #[.int .u64 P, .int .i64 M, .int .i64 F, .bool n, .slice A nl c, .int .i64 E], .int .u64 40, .int .i64 30] W (RealOut 40 30 P M F E l W)) :=
    Lib.hid fun W hW => by have := laws_real 40 30 P M F n A c l E W hP (by decide) (by decide) (hr.chg hW) hm hc; rw [← hnl] at this; exact this
  have HOf : Hid (∀ W, Chg No w W → RealOk 40 30 P M E l → Calls Tryz.prog 20 #[.agg #[.int .u64 P, .int .i64 M, .int .i64 1, .bool n, .slice A nl c, .int .i64 E]] W fun e w' => ∃ r, e = .returned (.agg #[.bool n, r, .int .i64 E]) ∧ Sn w' r (Vl l) ∧ Chg No W w') :=
    Lib.hid fun W hW ho => by have := spec_OfReal P M n A c l E W (hr.chg hW) (by have := ho.2.2.2.2.1; have := ho.2.1; omega) hm hc; rw [← hnl] at this; exact this
  have HOn : Hid (∀ W, Chg No w W → RealOk 40 30 P M E l → Calls Tryz.prog 28 #[.slice A nl c] W (SnOut (Vl l) W)) :=
    Lib.hid fun W hW ho => by have := spec_Of A c l W (hr.chg hW) (by have := ho.2.2.2.2.1; have := ho.2.1; omega) hm hc; rw [← hnl] at this; exact this
  have HTx : Hid (∀ ch : Nat, (ch = 101 ∨ ch = 102 ∨ ch = 103) → ∀ W, Chg No w W → RealOk 40 30 P M E l → 2 ^ (blen (Vl l) - 1) < Vl l → Calls Tryz.prog 24 #[.agg #[.int .u64 P, .int .i64 M, .int .i64 1, .bool n, .slice A nl c, .int .i64 E], .int .u8 ch, .int .i64 (-1)] W (TextOut (SdBack n P (Vl l) E) W)) :=
    Lib.hid fun ch hch W hW ho hnp => by
      obtain ⟨m, rfl⟩ : ∃ m : Nat, M = (m : Int) := ⟨M.toNat, by have := ho.2.2.1; omega⟩
      have := text_sd ch P m n A c l E W hch (hr.chg hW) hm (hg.no hW) ho hnp
      rw [← hnl] at this
      exact this
  have HPa : Hid (∀ t W, SdBack n P (Vl l) E t → Chg No w W → RealOk 40 30 P M E l → Calls Tryz.prog 42 #[.string (txt t), .int .i64 10, .int .u64 P, .int .i64 0] W (LPostD P n (Vl l) E W)) :=
    Lib.hid fun t W ht hW ho => by
      obtain ⟨o1, o2, o3, o4, o5, o6, o7, o8, o9⟩ := ho
      exact parse_backD P n (Vl l) E t eo W ht o6 o7 (by omega) o2 (by omega) (by omega) (hg.no hW) (h5.chg hW (fun _ f => f)) (eof_chg hE0 hW (fun f => f))
  have HIs : Hid (∀ (A2 : Option Addr) (c2 : Nat) (lz : List Nat) (ln : Nat) (F2 : Int) (v : Value) (W : World), ln = List.length lz → Chg No w W → RealOk 40 30 P M E l → (∀ m k : Nat, Vl l = m * 2 ^ k → m % 2 = 1 → Vl lz = m ∧ F2 = E + (k : Nat)) → RdU W A2 lz → List.length lz ≤ c2 → CanW lz → Sn W v (Vl l) →
      Calls Tryz.prog 43 #[.agg #[.int .u64 P, .int .i64 0, .int .i64 1, .bool n, .slice A2 ln c2, .int .i64 F2], .int .u64 P, .int .i64 0, .agg #[.bool n, v, .int .i64 E]] W fun e w' => e = .returned (.bool true) ∧ Chg No W w') :=
    Lib.hid fun A2 c2 lz ln F2 v W hln hW ho h1 h2 h3 h4 h5 => by
      subst hln
      obtain ⟨o1, o2, o3, o4, o5, o6, o7, o8, o9⟩ := ho
      obtain ⟨T, hT⟩ : ∃ T : Nat, T = 300 := ⟨_, rfl⟩
      have hX : Vl l < 2 ^ T := Nat.lt_of_lt_of_le (blen_spec o6).2.2 (Nat.pow_le_pow_right (by decide) (by omega))
      have hlz : lz.length ≤ 1000000 := by
        obtain ⟨j, m', hj, hm'⟩ := odd_part (Vl l) o6
        have hX2 : Vl l = m' * 2 ^ j := by rw [hj, Nat.mul_comm]
        exact canw_len h4 hX2 (h1 m' j hX2 hm').1 hX (by omega)
      obtain ⟨u, hu⟩ : ∃ u : Nat, u = 19 := ⟨_, rfl⟩
      refine spec_IsReal P 0 n A2 c2 lz F2 v (Vl l) u E W h5 ?_ (by omega) o6 h2 h3 hlz h4 (Nat.le_trans hg.size hW.size) h1 (by omega) (by omega)
      refine Nat.lt_of_lt_of_le hX ?_
      rw [show (65536 : Nat) = 2 ^ 16 from rfl, ← Nat.pow_mul]
      exact Nat.pow_le_pow_right (by decide) (by omega)
  have K0 := Lib.hid ((Chg.refl No w).alloc (.cells #[.int .u64 P, .int .i64 M, .int .i64 F, .bool n, .slice A nl c, .int .i64 E] 43))
  have R0 : Hid (RealAt (w.alloc (.cells #[.int .u64 P, .int .i64 M, .int .i64 F, .bool n, .slice A nl c, .int .i64 E] 43)) w.heap.size P M F n A nl c E) :=
    Lib.hid ⟨World.cell?_alloc_new _ _ _ _, World.cell?_alloc_new _ _ _ _, World.cell?_alloc_new _ _ _ _, World.cell?_alloc_new _ _ _ _, World.cell?_alloc_new _ _ _ _, World.cell?_alloc_new _ _ _ _⟩
  rw [← hnl]
  have h17 := hg.size
  clear hr hm hc hg hnl hE0 h5 hP
  go_enter Tryz.func9, Tryz.ntmps9
  go_wp2_with fail
  refine (HZ.out _).mono ?_
  rintro e w1 ⟨b1, rfl, hk1⟩
  have K1 := Lib.hid (K0.out.then hk1 (fun _ _ _ f => f))
  have R1 := Lib.hid (R0.out.chg hk1)
  clear hk1
  cases b1
  · go_wp2_with fail
    go_ret
    exact ⟨rfl, K1.out⟩
  obtain ⟨c0, c1, c2, c3, c4, c5⟩ := R1.out
  go_wp2_with fail
  refine (HRl.out _ K1.out).mono ?_
  rintro e w2 ⟨b2, rfl, hok, hk2⟩
  have K2 := Lib.hid (K1.out.then hk2 (fun _ _ _ f => f))
  have R2 := Lib.hid (R1.out.chg hk2)
  clear hk2 c0 c1 c2 c3 c4 c5
  obtain ⟨c0, c1, c2, c3, c4, c5⟩ := R2.out
  cases b2
  · go_wp2_with fail
    go_ret
    exact ⟨rfl, K2.out⟩
  rcases Decidable.em (F = 1) with hF | hF
  case inr =>
    have tF : (F == 1) = false := beq_eq_false_iff_ne.2 hF
    have tF2 : (F != 1) = true := by simp [bne, tF]
    clear hok hF
    go_wp2_with fail
    go_ret
    exact ⟨rfl, K2.out⟩
  subst hF
  have HOK := Lib.hid (hok rfl rfl)
  obtain ⟨X, hX⟩ : ∃ X, X = Vl l := ⟨_, rfl⟩
  have HXE := Lib.hid hX
  have hXb : X < 65536 ^ 10 := by
    obtain ⟨o1, o2, o3, o4, o5, o6, o7, o8, o9⟩ := HOK.out
    rw [hX]
    exact b16 (Nat.lt_of_lt_of_le (blen_spec o6).2.2 (Nat.pow_le_pow_right (by decide) (by omega))) (by omega)
  have HXB := Lib.hid hXb
  clear hok hX hXb
  go_wp2_with fail
  refine (HOn.out _ K2.out HOK.out).mono ?_
  rintro e w3 ⟨r3, rfl, hr3, hk3⟩
  have K3 := Lib.hid (K2.out.then hk3 (fun _ _ _ f => f))
  have R3 := Lib.hid (R2.out.chg hk3)
  rw [← HXE.out] at hr3
  have HOd := Lib.hid (spec_Odd r3 X 10 w3 hr3 HXB.out (by decide) (by rw [HXE.out]; exact HOK.out.2.2.2.2.2.1))
  clear hr3 hk3 c0 c1 c2 c3 c4 c5
  go_wp2_with fail
  refine HOd.out.mono ?_
  rintro e w4 ⟨r4, mo, ko, rfl, hr4, ho1, ho2, ho3, hk4⟩
  have K4 := Lib.hid (K3.out.then hk4 (fun _ _ _ f => f))
  have R4 := Lib.hid (R3.out.chg hk4)
  have HO4 := Lib.hid (And.intro hr4 (And.intro ho1 (And.intro ho2 ho3)))
  have H1 := Lib.hid (spec_Small 1 w4 (by decide))
  clear hr4 ho1 ho2 ho3 hk4
  go_wp2_with fail
  refine H1.out.mono ?_
  rintro e w5 ⟨r5, rfl, hr5, hk5⟩
  have K5 := Lib.hid (K4.out.then hk5 (fun _ _ _ f => f))
  have R5 := Lib.hid (R4.out.chg hk5)
  have hmo : mo < 65536 ^ 10 := Nat.lt_of_le_of_lt (by rw [HO4.out.2.1]; exact Nat.le_mul_of_pos_right _ (Nat.two_pow_pos _)) HXB.out
  have HC := Lib.hid (spec_Cmp r4 r5 mo 1 10 w5 (HO4.out.1.chg hk5) hr5 hmo (by decide) (by decide))
  clear hr5 hk5 hmo
  go_wp2_with fail
  refine HC.out.mono ?_
  rintro e wq ⟨rfl, hk6⟩
  have KQ := Lib.hid (K5.out.then hk6 (fun _ _ _ f => f))
  have RQ := Lib.hid (R5.out.chg hk6)
  clear hk6
  rcases Decidable.em (mo = 1) with hmo1 | hmo1
  case inl =>
    have t1 : (cmp3 mo 1 == 0) = true := by rw [beq_iff_eq]; exact cmp3_iff.2 hmo1
    clear hmo1
    go_wp2_with fail
    go_ret
    exact ⟨rfl, KQ.out⟩
  have t1 : (cmp3 mo 1 == 0) = false := beq_eq_false_iff_ne.2 (fun h => hmo1 (cmp3_iff.1 h))
  have hX0 : X ≠ 0 := by rw [HXE.out]; exact HOK.out.2.2.2.2.2.1
  have hnp := Lib.hid (not_two_pow HO4.out.2.1 HO4.out.2.2.1 hmo1 hX0)
  rw [HXE.out] at hnp
  clear hmo1 hX0
  have HOK' := HOK
  obtain ⟨kk, hkk⟩ : ∃ kk, kk = k % 3 := ⟨_, rfl⟩
  have e1 : (k : Int).tmod 3 = (kk : Int) := by rw [Int.tmod_eq_emod_of_nonneg (by omega)]; omega
  obtain ⟨ch, hch, hk2⟩ : ∃ ch, (ch = 101 ∨ ch = 102 ∨ ch = 103) ∧ ((kk = 0 ∧ ch = 101) ∨ (kk = 1 ∧ ch = 102) ∨ (kk = 2 ∧ ch = 103)) := by
    rcases (show kk = 0 ∨ kk = 1 ∨ kk = 2 by omega) with h | h | h
    · exact ⟨101, .inl rfl, .inl ⟨h, rfl⟩⟩
    · exact ⟨102, .inr (.inl rfl), .inr (.inl ⟨h, rfl⟩)⟩
    · exact ⟨103, .inr (.inr rfl), .inr (.inr ⟨h, rfl⟩)⟩
  have HT : Hid (∀ W, Chg No w W → Calls Tryz.prog 24 #[.agg #[.int .u64 P, .int .i64 M, .int .i64 1, .bool n, .slice A nl c, .int .i64 E], .int .u8 ch, .int .i64 (-1)] W (TextOut (SdBack n P (Vl l) E) W)) := Lib.hid fun W hW => HTx.out ch hch W hW HOK.out hnp.out
  clear HTx hch
  clear hkk
  obtain ⟨c0, c1, c2, c3, c4, c5⟩ := RQ.out
  have HKP : Hid (∀ W, Chg No wq W → W.cell? ⟨w.heap.size, 0, none⟩ = some (.int .u64 P) ∧ W.cell? ⟨w.heap.size, 1, none⟩ = some (.int .i64 M) ∧ W.cell? ⟨w.heap.size, 2, none⟩ = some (.int .i64 1) ∧ W.cell? ⟨w.heap.size, 3, none⟩ = some (.bool n) ∧ W.cell? ⟨w.heap.size, 4, none⟩ = some (.slice A nl c) ∧ W.cell? ⟨w.heap.size, 5, none⟩ = some (.int .i64 E)) :=
    Lib.hid fun W hW => RQ.out.chg hW
  have hbl0 : w.heap.size < wq.heap.size := World.block_lt_of_cell? _ _ c0
  go_upto_region 8 with fail
  clear c0 c1 c2 c3 c4 c5
  go_cut [7, 8, 9, 10] (fun (zv av bv kv : Value) (wx : World) => ∃ (fb : Nat) (A2 : Option Addr) (c2 : Nat) (lz : List Nat) (ln : Nat) (F2 ac : Int), zv = .pointer (some ⟨fb, 0, none⟩) ∧ av = .int .i64 ac ∧ bv = .int .i64 10 ∧ kv = .bool true ∧ Hid (ln = List.length lz) ∧ Hid (Bk wx fb #[.int .u64 P, .int .i64 0, .int .i64 1, .bool n, .slice A2 ln c2, .int .i64 F2]) ∧
    Hid ((∀ m k : Nat, Vl l = m * 2 ^ k → m % 2 = 1 → Vl lz = m ∧ F2 = E + (k : Nat)) ∧ List.length lz ≤ c2 ∧ CanW lz) ∧ Hid (RdU wx A2 lz) ∧ Hid (Chg No wq wx))
  case first =>
    have hPW : P < WB := by have := HOK.out.2.1; have h2 : (40 : Nat) < WB := by decide
                            omega
    rcases hk2 with ⟨rfl, rfl⟩ | ⟨rfl, rfl⟩ | ⟨rfl, rfl⟩
    · simp only [Int.natCast_zero, Int.natCast_one, Int.cast_ofNat_Int] at e1
      go_wp2_with fail
      go_region_held3 (fun W => W.cell? ⟨w.heap.size, 0, none⟩ = some (.int .u64 P) ∧ W.cell? ⟨w.heap.size, 1, none⟩ = some (.int .i64 M) ∧ W.cell? ⟨w.heap.size, 2, none⟩ = some (.int .i64 1) ∧ W.cell? ⟨w.heap.size, 3, none⟩ = some (.bool n) ∧ W.cell? ⟨w.heap.size, 4, none⟩ = some (.slice A nl c) ∧ W.cell? ⟨w.heap.size, 5, none⟩ = some (.int .i64 E)) (first
        | (obtain ⟨q0, q1, q2, q3, q4, q5⟩ := hS7; refine ⟨?_, ?_, ?_, ?_, ?_, ?_⟩ <;> (rw [cell_setCell_ne _ _ _ _ _ _ (.inl (by omega)), cell_setCell_ne _ _ _ _ _ _ (.inl (by omega)), cell_setCell_ne _ _ _ _ _ _ (.inl (by omega)), cell_setCell_ne _ _ _ _ _ _ (.inl (by omega)), cell_setCell_ne _ _ _ _ _ _ (.inl (by omega)), cell_setCell_ne _ _ _ _ _ _ (.inl (by omega))]; assumption))
        | assumption | exact HKP.out _ (Chg.refl No wq).drew | exact HKP.out _ ((Chg.refl No wq).alloc _).drew | exact HKP.out _ ((Chg.refl No wq).alloc _) | exact HKP.out _ (KD6.out.alloc _) | exact HKP.out _ (KD7.out.alloc _)) (first
        | (go_at_call 24
           (show Calls Tryz.prog 24 #[_, .int .u8 ((101 : Nat) : Int), _] _ _)
           (with_reducible refine (HT.out wq.drew (KQ.out.drew)).mono ?_)
           rintro e6 w6 ⟨t6, ht6, rfl, hk6⟩
           have KD6 := Lib.hid ((Chg.refl No wq).drew.then hk6 (fun _ _ _ f => f))
           have HT6 := Lib.hid ht6
           have hS6 := HKP.out _ KD6.out
           clear hk6 ht6)
        | (go_at_call 24
           (show Calls Tryz.prog 24 #[_, .int .u8 ((101 : Nat) : Int), _] _ _)
           (with_reducible refine (HT.out (wq.alloc _).drew ((KQ.out.alloc _).drew)).mono ?_)
           rintro e6 w6 ⟨t6, ht6, rfl, hk6⟩
           have KD6 := Lib.hid (((Chg.refl No wq).alloc _).drew.then hk6 (fun _ _ _ f => f))
           have BK6 : Hid (Bk w6 wq.heap.size #[.int .u64 0, .int .i64 0, .int .i64 0, .bool false, .slice none 0 0, .int .i64 0]) := Lib.hid (Bk.chg (S := No) (Bk.new wq #[.int .u64 0, .int .i64 0, .int .i64 0, .bool false, .slice none 0 0, .int .i64 0] 43) ((Chg.refl No _).drew.then hk6 (fun _ _ _ f => f)) (fun _ f => f))
           have HT6 := Lib.hid ht6
           have hS6 := HKP.out _ KD6.out
           clear hk6 ht6)
        | (go_at_call 42; (with_reducible refine (HPa.out _ w6 HT6.out (KQ.out.then KD6.out (fun _ _ _ f => f)) HOK.out).mono ?_)
           rintro e7 w7 ⟨A2, c2, lz, ln, F2, ac, rfl, p1, p2, p3, p4, p5, p6, p7⟩
           have KD7 := Lib.hid (KD6.out.then p6 (fun _ _ _ f => f))
           have HL7 := Lib.hid p1
           have HP7 := Lib.hid (And.intro p2 (And.intro p4 p5))
           have HR7 := Lib.hid p3
           have HN7 := Lib.hid p7
           have hS7 := HKP.out _ KD7.out
           try (have g7 : Bk w7 wq.heap.size #[.int .u64 0, .int .i64 0, .int .i64 0, .bool false, .slice none 0 0, .int .i64 0] := Bk.chg (S := No) BK6.out p6 (fun _ f => f)
                have BK7 := Lib.hid g7
                have b0 : w7.cell? ⟨wq.heap.size, 0, none⟩ = some (.int .u64 0) := g7.cell 0
                have b1 : w7.cell? ⟨wq.heap.size, 1, none⟩ = some (.int .i64 0) := g7.cell 1
                have b2 : w7.cell? ⟨wq.heap.size, 2, none⟩ = some (.int .i64 0) := g7.cell 2
                have b3 : w7.cell? ⟨wq.heap.size, 3, none⟩ = some (.bool false) := g7.cell 3
                have b4 : w7.cell? ⟨wq.heap.size, 4, none⟩ = some (.slice none 0 0) := g7.cell 4
                have b5 : w7.cell? ⟨wq.heap.size, 5, none⟩ = some (.int .i64 0) := g7.cell 5
                have f0 := g7.plain.free 0
                have f1 := g7.plain.free 1
                have f2 := g7.plain.free 2
                have f3 := g7.plain.free 3
                have f4 := g7.plain.free 4
                have f5 := g7.plain.free 5
                clear g7)
           clear p1 p2 p3 p4 p5 p6 p7)
        | (go_at_call 42; (with_reducible refine (HPa.out _ (w6.alloc _) HT6.out (KQ.out.then (KD6.out.alloc _) (fun _ _ _ f => f)) HOK.out).mono ?_)
           rintro e7 w7 ⟨A2, c2, lz, ln, F2, ac, rfl, p1, p2, p3, p4, p5, p6, p7⟩
           have KD7 := Lib.hid ((KD6.out.alloc _).then p6 (fun _ _ _ f => f))
           have HL7 := Lib.hid p1
           have HP7 := Lib.hid (And.intro p2 (And.intro p4 p5))
           have HR7 := Lib.hid p3
           have HN7 := Lib.hid p7
           have hS7 := HKP.out _ KD7.out
           have hb66 : w.heap.size < w6.heap.size := World.block_lt_of_cell? _ _ hS6.1
           have g7 : Bk w7 w6.heap.size #[.int .u64 0, .int .i64 0, .int .i64 0, .bool false, .slice none 0 0, .int .i64 0] := Bk.chg (S := No) (Bk.new w6 #[.int .u64 0, .int .i64 0, .int .i64 0, .bool false, .slice none 0 0, .int .i64 0] 43) p6 (fun _ f => f)
           have BK7 := Lib.hid g7
           have b0 : w7.cell? ⟨w6.heap.size, 0, none⟩ = some (.int .u64 0) := g7.cell 0
           have b1 : w7.cell? ⟨w6.heap.size, 1, none⟩ = some (.int .i64 0) := g7.cell 1
           have b2 : w7.cell? ⟨w6.heap.size, 2, none⟩ = some (.int .i64 0) := g7.cell 2
           have b3 : w7.cell? ⟨w6.heap.size, 3, none⟩ = some (.bool false) := g7.cell 3
           have b4 : w7.cell? ⟨w6.heap.size, 4, none⟩ = some (.slice none 0 0) := g7.cell 4
           have b5 : w7.cell? ⟨w6.heap.size, 5, none⟩ = some (.int .i64 0) := g7.cell 5
           have f0 := g7.plain.free 0
           have f1 := g7.plain.free 1
           have f2 := g7.plain.free 2
           have f3 := g7.plain.free 3
           have f4 := g7.plain.free 4
           have f5 := g7.plain.free 5
           clear g7 p1 p2 p3 p4 p5 p6 p7))
      all_goals
        go_wp2_with fail
        go_meet
        first
          | with_reducible exact ⟨_, A2, c2, lz, ln, F2, ac, rfl, rfl, rfl, rfl, HL7, Lib.hid (Bk.new _ _ _), HP7, Lib.hid (HR7.out.chg ((Chg.refl No w7).alloc _)), Lib.hid (KD7.out.alloc _)⟩
          | (have ks := BK7.out.sr6_chg (p := 0) (P := P) (by decide) hPW ⟨by simp, by simp⟩ ⟨by simp, by simp⟩ ⟨by simp, by simp⟩ ⟨by simp, by simp⟩ ⟨by simp, by simp⟩ (.int .i64 0) (.int .i64 1) (.bool n) (.slice A2 ln c2) (.int .i64 F2)
             have hfl := BK7.out.plain.lt
             refine ⟨_, A2, c2, lz, ln, F2, ac, rfl, rfl, rfl, rfl, HL7, Lib.hid (BK7.out.sr6 _ _ _ _ _ _), HP7, Lib.hid (HR7.out.chgB ks (fun ad e0 h0 o h => ?_)), Lib.hid (KD7.out.then ks (fun y o hy f => ?_))⟩
             · have h4 := HN7.out ad e0 h0
               first
                 | (have h : ad.block = wq.heap.size := h
                    have h5 := BK6.out.plain.lt
                    omega)
                 | (have h : ad.block = w6.heap.size := h
                    rw [show (w6.alloc (.cells #[.int .u64 0, .int .i64 0, .int .i64 0, .bool false, .slice none 0 0, .int .i64 0] 43)).heap.size = w6.heap.size + 1 by simp] at h4
                    omega)
             · first
                 | (have h : y = wq.heap.size := f
                    omega)
                 | (have h : y = w6.heap.size := f
                    have := KD6.out.size
                    omega))
    · simp only [Int.natCast_zero, Int.natCast_one, Int.cast_ofNat_Int] at e1
      go_wp2_with fail
      go_region_held3 (fun W => W.cell? ⟨w.heap.size, 0, none⟩ = some (.int .u64 P) ∧ W.cell? ⟨w.heap.size, 1, none⟩ = some (.int .i64 M) ∧ W.cell? ⟨w.heap.size, 2, none⟩ = some (.int .i64 1) ∧ W.cell? ⟨w.heap.size, 3, none⟩ = some (.bool n) ∧ W.cell? ⟨w.heap.size, 4, none⟩ = some (.slice A nl c) ∧ W.cell? ⟨w.heap.size, 5, none⟩ = some (.int .i64 E)) (first
        | (obtain ⟨q0, q1, q2, q3, q4, q5⟩ := hS7; refine ⟨?_, ?_, ?_, ?_, ?_, ?_⟩ <;> (rw [cell_setCell_ne _ _ _ _ _ _ (.inl (by omega)), cell_setCell_ne _ _ _ _ _ _ (.inl (by omega)), cell_setCell_ne _ _ _ _ _ _ (.inl (by omega)), cell_setCell_ne _ _ _ _ _ _ (.inl (by omega)), cell_setCell_ne _ _ _ _ _ _ (.inl (by omega)), cell_setCell_ne _ _ _ _ _ _ (.inl (by omega))]; assumption))
        | assumption | exact HKP.out _ (Chg.refl No wq).drew | exact HKP.out _ ((Chg.refl No wq).alloc _).drew | exact HKP.out _ ((Chg.refl No wq).alloc _) | exact HKP.out _ (KD6.out.alloc _) | exact HKP.out _ (KD7.out.alloc _)) (first
        | (go_at_call 24
           (show Calls Tryz.prog 24 #[_, .int .u8 ((102 : Nat) : Int), _] _ _)
           (with_reducible refine (HT.out wq.drew (KQ.out.drew)).mono ?_)
           rintro e6 w6 ⟨t6, ht6, rfl, hk6⟩
           have KD6 := Lib.hid ((Chg.refl No wq).drew.then hk6 (fun _ _ _ f => f))
           have HT6 := Lib.hid ht6
           have hS6 := HKP.out _ KD6.out
           clear hk6 ht6)
        | (go_at_call 24
           (show Calls Tryz.prog 24 #[_, .int .u8 ((102 : Nat) : Int), _] _ _)
           (with_reducible refine (HT.out (wq.alloc _).drew ((KQ.out.alloc _).drew)).mono ?_)
           rintro e6 w6 ⟨t6, ht6, rfl, hk6⟩
           have KD6 := Lib.hid (((Chg.refl No wq).alloc _).drew.then hk6 (fun _ _ _ f => f))
           have BK6 : Hid (Bk w6 wq.heap.size #[.int .u64 0, .int .i64 0, .int .i64 0, .bool false, .slice none 0 0, .int .i64 0]) := Lib.hid (Bk.chg (S := No) (Bk.new wq #[.int .u64 0, .int .i64 0, .int .i64 0, .bool false, .slice none 0 0, .int .i64 0] 43) ((Chg.refl No _).drew.then hk6 (fun _ _ _ f => f)) (fun _ f => f))
           have HT6 := Lib.hid ht6
           have hS6 := HKP.out _ KD6.out
           clear hk6 ht6)
        | (go_at_call 42; (with_reducible refine (HPa.out _ w6 HT6.out (KQ.out.then KD6.out (fun _ _ _ f => f)) HOK.out).mono ?_)
           rintro e7 w7 ⟨A2, c2, lz, ln, F2, ac, rfl, p1, p2, p3, p4, p5, p6, p7⟩
           have KD7 := Lib.hid (KD6.out.then p6 (fun _ _ _ f => f))
           have HL7 := Lib.hid p1
           have HP7 := Lib.hid (And.intro p2 (And.intro p4 p5))
           have HR7 := Lib.hid p3
           have HN7 := Lib.hid p7
           have hS7 := HKP.out _ KD7.out
           try (have g7 : Bk w7 wq.heap.size #[.int .u64 0, .int .i64 0, .int .i64 0, .bool false, .slice none 0 0, .int .i64 0] := Bk.chg (S := No) BK6.out p6 (fun _ f => f)
                have BK7 := Lib.hid g7
                have b0 : w7.cell? ⟨wq.heap.size, 0, none⟩ = some (.int .u64 0) := g7.cell 0
                have b1 : w7.cell? ⟨wq.heap.size, 1, none⟩ = some (.int .i64 0) := g7.cell 1
                have b2 : w7.cell? ⟨wq.heap.size, 2, none⟩ = some (.int .i64 0) := g7.cell 2
                have b3 : w7.cell? ⟨wq.heap.size, 3, none⟩ = some (.bool false) := g7.cell 3
                have b4 : w7.cell? ⟨wq.heap.size, 4, none⟩ = some (.slice none 0 0) := g7.cell 4
                have b5 : w7.cell? ⟨wq.heap.size, 5, none⟩ = some (.int .i64 0) := g7.cell 5
                have f0 := g7.plain.free 0
                have f1 := g7.plain.free 1
                have f2 := g7.plain.free 2
                have f3 := g7.plain.free 3
                have f4 := g7.plain.free 4
                have f5 := g7.plain.free 5
                clear g7)
           clear p1 p2 p3 p4 p5 p6 p7)
        | (go_at_call 42; (with_reducible refine (HPa.out _ (w6.alloc _) HT6.out (KQ.out.then (KD6.out.alloc _) (fun _ _ _ f => f)) HOK.out).mono ?_)
           rintro e7 w7 ⟨A2, c2, lz, ln, F2, ac, rfl, p1, p2, p3, p4, p5, p6, p7⟩
           have KD7 := Lib.hid ((KD6.out.alloc _).then p6 (fun _ _ _ f => f))
           have HL7 := Lib.hid p1
           have HP7 := Lib.hid (And.intro p2 (And.intro p4 p5))
           have HR7 := Lib.hid p3
           have HN7 := Lib.hid p7
           have hS7 := HKP.out _ KD7.out
           have hb66 : w.heap.size < w6.heap.size := World.block_lt_of_cell? _ _ hS6.1
           have g7 : Bk w7 w6.heap.size #[.int .u64 0, .int .i64 0, .int .i64 0, .bool false, .slice none 0 0, .int .i64 0] := Bk.chg (S := No) (Bk.new w6 #[.int .u64 0, .int .i64 0, .int .i64 0, .bool false, .slice none 0 0, .int .i64 0] 43) p6 (fun _ f => f)
           have BK7 := Lib.hid g7
           have b0 : w7.cell? ⟨w6.heap.size, 0, none⟩ = some (.int .u64 0) := g7.cell 0
           have b1 : w7.cell? ⟨w6.heap.size, 1, none⟩ = some (.int .i64 0) := g7.cell 1
           have b2 : w7.cell? ⟨w6.heap.size, 2, none⟩ = some (.int .i64 0) := g7.cell 2
           have b3 : w7.cell? ⟨w6.heap.size, 3, none⟩ = some (.bool false) := g7.cell 3
           have b4 : w7.cell? ⟨w6.heap.size, 4, none⟩ = some (.slice none 0 0) := g7.cell 4
           have b5 : w7.cell? ⟨w6.heap.size, 5, none⟩ = some (.int .i64 0) := g7.cell 5
           have f0 := g7.plain.free 0
           have f1 := g7.plain.free 1
           have f2 := g7.plain.free 2
           have f3 := g7.plain.free 3
           have f4 := g7.plain.free 4
           have f5 := g7.plain.free 5
           clear g7 p1 p2 p3 p4 p5 p6 p7))
      all_goals
        go_wp2_with fail
        go_meet
        first
          | with_reducible exact ⟨_, A2, c2, lz, ln, F2, ac, rfl, rfl, rfl, rfl, HL7, Lib.hid (Bk.new _ _ _), HP7, Lib.hid (HR7.out.chg ((Chg.refl No w7).alloc _)), Lib.hid (KD7.out.alloc _)⟩
          | (have ks := BK7.out.sr6_chg (p := 0) (P := P) (by decide) hPW ⟨by simp, by simp⟩ ⟨by simp, by simp⟩ ⟨by simp, by simp⟩ ⟨by simp, by simp⟩ ⟨by simp, by simp⟩ (.int .i64 0) (.int .i64 1) (.bool n) (.slice A2 ln c2) (.int .i64 F2)
             have hfl := BK7.out.plain.lt
             refine ⟨_, A2, c2, lz, ln, F2, ac, rfl, rfl, rfl, rfl, HL7, Lib.hid (BK7.out.sr6 _ _ _ _ _ _), HP7, Lib.hid (HR7.out.chgB ks (fun ad e0 h0 o h => ?_)), Lib.hid (KD7.out.then ks (fun y o hy f => ?_))⟩
             · have h4 := HN7.out ad e0 h0
               first
                 | (have h : ad.block = wq.heap.size := h
                    have h5 := BK6.out.plain.lt
                    omega)
                 | (have h : ad.block = w6.heap.size := h
                    rw [show (w6.alloc (.cells #[.int .u64 0, .int .i64 0, .int .i64 0, .bool false, .slice none 0 0, .int .i64 0] 43)).heap.size = w6.heap.size + 1 by simp] at h4
                    omega)
             · first
                 | (have h : y = wq.heap.size := f
                    omega)
                 | (have h : y = w6.heap.size := f
                    have := KD6.out.size
                    omega))
    · simp only [Int.natCast_zero, Int.natCast_one, Int.cast_ofNat_Int] at e1
      go_wp2_with fail
      go_region_held3 (fun W => W.cell? ⟨w.heap.size, 0, none⟩ = some (.int .u64 P) ∧ W.cell? ⟨w.heap.size, 1, none⟩ = some (.int .i64 M) ∧ W.cell? ⟨w.heap.size, 2, none⟩ = some (.int .i64 1) ∧ W.cell? ⟨w.heap.size, 3, none⟩ = some (.bool n) ∧ W.cell? ⟨w.heap.size, 4, none⟩ = some (.slice A nl c) ∧ W.cell? ⟨w.heap.size, 5, none⟩ = some (.int .i64 E)) (first
        | (obtain ⟨q0, q1, q2, q3, q4, q5⟩ := hS7; refine ⟨?_, ?_, ?_, ?_, ?_, ?_⟩ <;> (rw [cell_setCell_ne _ _ _ _ _ _ (.inl (by omega)), cell_setCell_ne _ _ _ _ _ _ (.inl (by omega)), cell_setCell_ne _ _ _ _ _ _ (.inl (by omega)), cell_setCell_ne _ _ _ _ _ _ (.inl (by omega)), cell_setCell_ne _ _ _ _ _ _ (.inl (by omega)), cell_setCell_ne _ _ _ _ _ _ (.inl (by omega))]; assumption))
        | assumption | exact HKP.out _ (Chg.refl No wq).drew | exact HKP.out _ ((Chg.refl No wq).alloc _).drew | exact HKP.out _ ((Chg.refl No wq).alloc _) | exact HKP.out _ (KD6.out.alloc _) | exact HKP.out _ (KD7.out.alloc _)) (first
        | (go_at_call 24
           (show Calls Tryz.prog 24 #[_, .int .u8 ((103 : Nat) : Int), _] _ _)
           (with_reducible refine (HT.out wq.drew (KQ.out.drew)).mono ?_)
           rintro e6 w6 ⟨t6, ht6, rfl, hk6⟩
           have KD6 := Lib.hid ((Chg.refl No wq).drew.then hk6 (fun _ _ _ f => f))
           have HT6 := Lib.hid ht6
           have hS6 := HKP.out _ KD6.out
           clear hk6 ht6)
        | (go_at_call 24
           (show Calls Tryz.prog 24 #[_, .int .u8 ((103 : Nat) : Int), _] _ _)
           (with_reducible refine (HT.out (wq.alloc _).drew ((KQ.out.alloc _).drew)).mono ?_)
           rintro e6 w6 ⟨t6, ht6, rfl, hk6⟩
           have KD6 := Lib.hid (((Chg.refl No wq).alloc _).drew.then hk6 (fun _ _ _ f => f))
           have BK6 : Hid (Bk w6 wq.heap.size #[.int .u64 0, .int .i64 0, .int .i64 0, .bool false, .slice none 0 0, .int .i64 0]) := Lib.hid (Bk.chg (S := No) (Bk.new wq #[.int .u64 0, .int .i64 0, .int .i64 0, .bool false, .slice none 0 0, .int .i64 0] 43) ((Chg.refl No _).drew.then hk6 (fun _ _ _ f => f)) (fun _ f => f))
           have HT6 := Lib.hid ht6
           have hS6 := HKP.out _ KD6.out
           clear hk6 ht6)
        | (go_at_call 42; (with_reducible refine (HPa.out _ w6 HT6.out (KQ.out.then KD6.out (fun _ _ _ f => f)) HOK.out).mono ?_)
           rintro e7 w7 ⟨A2, c2, lz, ln, F2, ac, rfl, p1, p2, p3, p4, p5, p6, p7⟩
           have KD7 := Lib.hid (KD6.out.then p6 (fun _ _ _ f => f))
           have HL7 := Lib.hid p1
           have HP7 := Lib.hid (And.intro p2 (And.intro p4 p5))
           have HR7 := Lib.hid p3
           have HN7 := Lib.hid p7
           have hS7 := HKP.out _ KD7.out
           try (have g7 : Bk w7 wq.heap.size #[.int .u64 0, .int .i64 0, .int .i64 0, .bool false, .slice none 0 0, .int .i64 0] := Bk.chg (S := No) BK6.out p6 (fun _ f => f)
                have BK7 := Lib.hid g7
                have b0 : w7.cell? ⟨wq.heap.size, 0, none⟩ = some (.int .u64 0) := g7.cell 0
                have b1 : w7.cell? ⟨wq.heap.size, 1, none⟩ = some (.int .i64 0) := g7.cell 1
                have b2 : w7.cell? ⟨wq.heap.size, 2, none⟩ = some (.int .i64 0) := g7.cell 2
                have b3 : w7.cell? ⟨wq.heap.size, 3, none⟩ = some (.bool false) := g7.cell 3
                have b4 : w7.cell? ⟨wq.heap.size, 4, none⟩ = some (.slice none 0 0) := g7.cell 4
                have b5 : w7.cell? ⟨wq.heap.size, 5, none⟩ = some (.int .i64 0) := g7.cell 5
                have f0 := g7.plain.free 0
                have f1 := g7.plain.free 1
                have f2 := g7.plain.free 2
                have f3 := g7.plain.free 3
                have f4 := g7.plain.free 4
                have f5 := g7.plain.free 5
                clear g7)
           clear p1 p2 p3 p4 p5 p6 p7)
        | (go_at_call 42; (with_reducible refine (HPa.out _ (w6.alloc _) HT6.out (KQ.out.then (KD6.out.alloc _) (fun _ _ _ f => f)) HOK.out).mono ?_)
           rintro e7 w7 ⟨A2, c2, lz, ln, F2, ac, rfl, p1, p2, p3, p4, p5, p6, p7⟩
           have KD7 := Lib.hid ((KD6.out.alloc _).then p6 (fun _ _ _ f => f))
           have HL7 := Lib.hid p1
           have HP7 := Lib.hid (And.intro p2 (And.intro p4 p5))
           have HR7 := Lib.hid p3
           have HN7 := Lib.hid p7
           have hS7 := HKP.out _ KD7.out
           have hb66 : w.heap.size < w6.heap.size := World.block_lt_of_cell? _ _ hS6.1
           have g7 : Bk w7 w6.heap.size #[.int .u64 0, .int .i64 0, .int .i64 0, .bool false, .slice none 0 0, .int .i64 0] := Bk.chg (S := No) (Bk.new w6 #[.int .u64 0, .int .i64 0, .int .i64 0, .bool false, .slice none 0 0, .int .i64 0] 43) p6 (fun _ f => f)
           have BK7 := Lib.hid g7
           have b0 : w7.cell? ⟨w6.heap.size, 0, none⟩ = some (.int .u64 0) := g7.cell 0
           have b1 : w7.cell? ⟨w6.heap.size, 1, none⟩ = some (.int .i64 0) := g7.cell 1
           have b2 : w7.cell? ⟨w6.heap.size, 2, none⟩ = some (.int .i64 0) := g7.cell 2
           have b3 : w7.cell? ⟨w6.heap.size, 3, none⟩ = some (.bool false) := g7.cell 3
           have b4 : w7.cell? ⟨w6.heap.size, 4, none⟩ = some (.slice none 0 0) := g7.cell 4
           have b5 : w7.cell? ⟨w6.heap.size, 5, none⟩ = some (.int .i64 0) := g7.cell 5
           have f0 := g7.plain.free 0
           have f1 := g7.plain.free 1
           have f2 := g7.plain.free 2
           have f3 := g7.plain.free 3
           have f4 := g7.plain.free 4
           have f5 := g7.plain.free 5
           clear g7 p1 p2 p3 p4 p5 p6 p7))
      all_goals
        go_wp2_with fail
        go_meet
        first
          | with_reducible exact ⟨_, A2, c2, lz, ln, F2, ac, rfl, rfl, rfl, rfl, HL7, Lib.hid (Bk.new _ _ _), HP7, Lib.hid (HR7.out.chg ((Chg.refl No w7).alloc _)), Lib.hid (KD7.out.alloc _)⟩
          | (have ks := BK7.out.sr6_chg (p := 0) (P := P) (by decide) hPW ⟨by simp, by simp⟩ ⟨by simp, by simp⟩ ⟨by simp, by simp⟩ ⟨by simp, by simp⟩ ⟨by simp, by simp⟩ (.int .i64 0) (.int .i64 1) (.bool n) (.slice A2 ln c2) (.int .i64 F2)
             have hfl := BK7.out.plain.lt
             refine ⟨_, A2, c2, lz, ln, F2, ac, rfl, rfl, rfl, rfl, HL7, Lib.hid (BK7.out.sr6 _ _ _ _ _ _), HP7, Lib.hid (HR7.out.chgB ks (fun ad e0 h0 o h => ?_)), Lib.hid (KD7.out.then ks (fun y o hy f => ?_))⟩
             · have h4 := HN7.out ad e0 h0
               first
                 | (have h : ad.block = wq.heap.size := h
                    have h5 := BK6.out.plain.lt
                    omega)
                 | (have h : ad.block = w6.heap.size := h
                    rw [show (w6.alloc (.cells #[.int .u64 0, .int .i64 0, .int .i64 0, .bool false, .slice none 0 0, .int .i64 0] 43)).heap.size = w6.heap.size + 1 by simp] at h4
                    omega)
             · first
                 | (have h : y = wq.heap.size := f
                    omega)
                 | (have h : y = w6.heap.size := f
                    have := KD6.out.size
                    omega))
  case rest =>
    obtain ⟨fb, A2, c2, lz, ln, F2, ac, rfl, rfl, rfl, rfl, HL7, BKF, HP7, HR7, KDF⟩ := hcut
    generalize wc = wa at *
    have HKF : Hid (∀ W, Chg No wa W → (W.cell? ⟨w.heap.size, 0, none⟩ = some (.int .u64 P) ∧ W.cell? ⟨w.heap.size, 1, none⟩ = some (.int .i64 M) ∧ W.cell? ⟨w.heap.size, 2, none⟩ = some (.int .i64 1) ∧ W.cell? ⟨w.heap.size, 3, none⟩ = some (.bool n) ∧ W.cell? ⟨w.heap.size, 4, none⟩ = some (.slice A nl c) ∧ W.cell? ⟨w.heap.size, 5, none⟩ = some (.int .i64 E)) ∧
        W.cell? ⟨fb, 0, none⟩ = some (.int .u64 P) ∧ W.cell? ⟨fb, 1, none⟩ = some (.int .i64 0) ∧ W.cell? ⟨fb, 2, none⟩ = some (.int .i64 1) ∧ W.cell? ⟨fb, 3, none⟩ = some (.bool n) ∧ W.cell? ⟨fb, 4, none⟩ = some (.slice A2 ln c2) ∧ W.cell? ⟨fb, 5, none⟩ = some (.int .i64 F2)) :=
      Lib.hid fun W hW => by
        have gg := BKF.out.chg hW (fun _ f => f)
        exact ⟨HKP.out _ (KDF.out.then hW (fun _ _ _ f => f)), gg.cell 0, gg.cell 1, gg.cell 2, gg.cell 3, gg.cell 4, gg.cell 5⟩
    go_wp2_with fail
    go_region_held3 (fun W => (W.cell? ⟨w.heap.size, 0, none⟩ = some (.int .u64 P) ∧ W.cell? ⟨w.heap.size, 1, none⟩ = some (.int .i64 M) ∧ W.cell? ⟨w.heap.size, 2, none⟩ = some (.int .i64 1) ∧ W.cell? ⟨w.heap.size, 3, none⟩ = some (.bool n) ∧ W.cell? ⟨w.heap.size, 4, none⟩ = some (.slice A nl c) ∧ W.cell? ⟨w.heap.size, 5, none⟩ = some (.int .i64 E)) ∧
        W.cell? ⟨fb, 0, none⟩ = some (.int .u64 P) ∧ W.cell? ⟨fb, 1, none⟩ = some (.int .i64 0) ∧ W.cell? ⟨fb, 2, none⟩ = some (.int .i64 1) ∧ W.cell? ⟨fb, 3, none⟩ = some (.bool n) ∧ W.cell? ⟨fb, 4, none⟩ = some (.slice A2 ln c2) ∧ W.cell? ⟨fb, 5, none⟩ = some (.int .i64 F2)) (first | assumption | exact HKF.out _ (Chg.refl No wa).drew) (first
      | (go_at_call 20; (with_reducible refine (HOf.out wa.drew ((KQ.out.then KDF.out (fun _ _ _ f => f)).drew) HOK.out).mono ?_)
         rintro e8 w8 ⟨v8, rfl, hs8, hk8⟩
         have KD8 := Lib.hid ((Chg.refl No wa).drew.then hk8 (fun _ _ _ f => f))
         have HS8 := Lib.hid hs8
         have hS8 := HKF.out _ KD8.out
         clear hk8 hs8)
      | (go_at_call 43; (with_reducible refine (HIs.out A2 c2 lz ln F2 v8 w8 HL7.out ((KQ.out.then KDF.out (fun _ _ _ f => f)).then KD8.out (fun _ _ _ f => f)) HOK.out HP7.out.1 (HR7.out.chg KD8.out) HP7.out.2.1 HP7.out.2.2 HS8.out).mono ?_)
         rintro e9 w9 ⟨rfl, hk9⟩
         have KD9 := Lib.hid (KD8.out.then hk9 (fun _ _ _ f => f))
         have hS9 := HKF.out _ KD9.out
         clear hk9))
    all_goals
      go_wp2_with fail
      go_ret
      exact ⟨rfl, (KQ.out.then KDF.out (fun _ _ _ f => f)).then KD9.out (fun _ _ _ f => f)⟩
end Go.Proofs.YtacfhndledcmgaaGreatDoor
