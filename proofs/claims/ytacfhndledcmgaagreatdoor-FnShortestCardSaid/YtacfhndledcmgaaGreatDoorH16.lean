/- Lemmas for the law FnShortest: rounding and sums of the specification. Conditions: those in each theorem; none besides. -/
import Derived.Test.YtacfhndledcmgaaGreatDoorH15
import Derived.Test.YtacfhndledcmgaaGreatDoorH8
import Derived.Test.YtacfhndledcmgaaGreatDoorH7
set_option linter.unusedVariables false
set_option linter.unusedSimpArgs false
namespace Go.Proofs.YtacfhndledcmgaaGreatDoor
open Go.RowKit
theorem spow {b k : Nat} (hb : b ≤ 65536) (n : Nat) (hk : k ≤ n) : b ^ k ≤ 65536 ^ n :=
  Nat.le_trans (Nat.pow_le_pow_left hb k) (Nat.pow_le_pow_right (by decide) hk)
theorem ten50 {k : Nat} (hk : k ≤ 200) : 10 ^ k ≤ 65536 ^ 50 := by
  have h1 : 10 ^ k ≤ 16 ^ k := Nat.pow_le_pow_left (by decide) k
  have h2 : (16 : Nat) ^ k ≤ 16 ^ (4 * 50) := Nat.pow_le_pow_right (by decide) (by omega)
  rw [Nat.pow_mul] at h2
  exact Nat.le_trans h1 h2
theorem b16 {a k : Nat} (h : a < 2 ^ k) {n : Nat} (hk : k ≤ 16 * n) : a < 65536 ^ n := by
  rw [show (65536 : Nat) = 2 ^ 16 by decide, ← Nat.pow_mul]
  exact Nat.lt_of_lt_of_le h (Nat.pow_le_pow_right (by decide) hk)
set_option maxRecDepth 100000 in
set_option maxHeartbeats 8000000 in
theorem laws_inside (qA : Option Addr) (qn qc : Nat) (N : Nat) (e : Int) (P : Nat) (M : Int) (nb : Bool) (A : Option Addr) (c : Nat) (l : List Nat) (E : Int) (w : World) (hq : Sn w (.slice qA qn qc) N) (hN : N < 65536 ^ 20) (he1 : -200 ≤ e) (he2 : e ≤ 200)
    (hr : RdU w A l) (hm : ∀ x ∈ l, x < WB) (hc : l.length ≤ c) (ho : RealOk 100 200 P M E l) (hO : OutOf (Vl l) E (E + blen (Vl l) - P - 1) N e) :
    Calls Tryz.prog 40 #[.slice qA qn qc, .int .i64 e, .agg #[.int .u64 P, .int .i64 M, .int .i64 1, .bool nb, .slice A l.length c, .int .i64 E]] w fun e w' => e = .returned (.bool false) ∧ Chg No w w' := by
  obtain ⟨nl, hnl⟩ : ∃ nl, nl = l.length := ⟨_, rfl⟩
  obtain ⟨o1, o2, o3, o4, o5, o6, o7, o8, o9⟩ := ho
  have hX : Vl l < 2 ^ 100 := Nat.lt_of_lt_of_le (blen_spec o6).2.2 (Nat.pow_le_pow_right (by decide) (by omega))
  have HX0 := Lib.hid o6
  have hk0 := (Chg.refl No w).alloc (.cells #[.int .u64 P, .int .i64 M, .int .i64 1, .bool nb, .slice A l.length c, .int .i64 E] 43)
  have HOf := Lib.hid (spec_OfReal P M nb A c l E _ (hr.chg hk0) (by omega) hm hc)
  have g0 := Bk.new w #[.int .u64 P, .int .i64 M, .int .i64 1, .bool nb, .slice A l.length c, .int .i64 E] 43
  obtain ⟨X, hXe⟩ : ∃ X, X = Vl l := ⟨_, rfl⟩
  obtain ⟨bX, hbX⟩ : ∃ bX, bX = blen X := ⟨_, rfl⟩
  rw [← hXe] at hO hX HOf HX0 o7
  rw [← hbX] at hO o7
  rw [← hnl] at HOf g0 hk0 ⊢
  have HB := Lib.hid hbX
  have HXL := Lib.hid hX
  have K0 := Lib.hid hk0
  have G0 := Lib.hid g0
  have HQ := Lib.hid (And.intro hq hN)
  obtain ⟨tt, ht⟩ : ∃ t : Int, t = E + bX - P - 1 := ⟨_, rfl⟩
  rw [← ht] at hO
  have HOO := Lib.hid hO
  obtain ⟨ep, hep⟩ : ∃ ep, ep = e.toNat := ⟨_, rfl⟩
  obtain ⟨en, hen⟩ : ∃ en, en = (-e).toNat := ⟨_, rfl⟩
  have x1 : max e 0 = (ep : Int) := by omega
  have x2 : max 0 e = (ep : Int) := by omega
  have x3 : max (-e) 0 = (en : Int) := by omega
  have x4 : max 0 (-e) = (en : Int) := by omega
  have x5 : IntKind.i64.wrap (-e) = -e := IntWalk.i64_in _ (by omega)
  have hep2 : ep ≤ 200 := by omega
  have hen2 : en ≤ 200 := by omega
  have HEE := Lib.hid (And.intro hep hen)
  clear hq hN hr hm hc hO hX hXe hbX hnl o5 o6 hk0 g0 hep hen
  go_enter Tryz.func40, Tryz.ntmps40
  go_wp2_with fail
  generalize w.alloc (.cells #[.int .u64 P, .int .i64 M, .int .i64 1, .bool nb, .slice A nl c, .int .i64 E] 43) = w0 at HOf K0 G0 ⊢
  refine HOf.out.mono ?_
  rintro e1 w1 ⟨r, rfl, hr1, hk1⟩
  obtain ⟨rA, rn, rc, rfl⟩ := hr1.slc
  have k1 := K0.out.then hk1 (fun _ _ _ f => f)
  have kd := dyad_new w1 (.bool nb) (.slice rA rn rc) (.int .i64 E)
  have G0b := Lib.hid ((G0.out.chg hk1 (fun _ f => f)).chg kd (fun _ f => f))
  have G1 := Lib.hid (Bk.new w1 #[.bool nb, .slice rA rn rc, .int .i64 E] 47)
  have HPt := Lib.hid (laws_parts nb _ X 10 E _ (hr1.chg kd) (b16 HXL.out (by omega)) (by omega) (by omega) (by omega))
  have HR1 := Lib.hid (hr1.chg kd)
  have K1 := Lib.hid (k1.then kd (fun _ _ _ f => f))
  have HS1 : Hid (w.heap.size < w1.heap.size) := Lib.hid (Nat.lt_of_lt_of_le (by have := G0.out.lt; exact this) hk1.size)
  clear hr1 hk1 k1 kd
  go_wp2_with fail
  refine HPt.out.mono ?_
  rintro e2 w2 ⟨a, b, rfl, ha, hb, hk2⟩
  obtain ⟨aA, an, ac, rfl⟩ := ha.slc
  obtain ⟨bA, bn, bc, rfl⟩ := hb.slc
  have HSA := Lib.hid (And.intro ha hb)
  have K2 := Lib.hid (K1.out.then hk2 (fun _ _ _ f => f))
  have G02 := Lib.hid (G0b.out.chg hk2 (fun _ f => f))
  have G12 := Lib.hid (G1.out.chg hk2 (fun _ f => f))
  have HR2 := Lib.hid (HR1.out.chg hk2)
  have H3 := Lib.hid (spec_Power 10 ep w2 (by decide) (by decide) (by omega))
  clear ha hb hk2
  go_wp2_with fail
  refine H3.out.mono ?_
  rintro e3 w3 ⟨p3, rfl, hp3, hk3⟩
  have H4 := Lib.hid (spec_Mul _ p3 N (10 ^ ep) 70 w3 (HQ.out.1.chg (K2.out.then hk3 (fun _ _ _ f => f))) hp3 (Nat.lt_of_lt_of_le HQ.out.2 (Nat.pow_le_pow_right (by decide) (by decide))) (Nat.lt_of_le_of_lt (ten50 hep2) (Nat.pow_lt_pow_right (by decide) (by decide))) (by decide))
  have KA3 := Lib.hid hk3
  clear hp3 hk3
  go_wp2_with fail
  refine H4.out.mono ?_
  rintro e4 w4 ⟨p4, rfl, hp4, hk4⟩
  have HP4 := Lib.hid hp4
  have KA4 := Lib.hid (KA3.out.then hk4 (fun _ _ _ f => f))
  have H5 := Lib.hid (spec_Power 10 en w4 (by decide) (by decide) (by omega))
  clear hp4 hk4
  go_wp2_with fail
  refine H5.out.mono ?_
  rintro e5 w5 ⟨p5, rfl, hp5, hk5⟩
  have KA5 := Lib.hid (KA4.out.then hk5 (fun _ _ _ f => f))
  have hN10 : N * 10 ^ ep < 65536 ^ 70 := by
    have h1 := HQ.out.2
    have h3 : (65536 : Nat) ^ (20 + 50) = 65536 ^ 20 * 65536 ^ 50 := Nat.pow_add _ _ _
    have h4 : N * 10 ^ ep < 65536 ^ 20 * 65536 ^ 50 := Nat.lt_of_lt_of_le (Nat.mul_lt_mul_of_pos_right h1 (ten_pos _)) (Nat.mul_le_mul_left _ (ten50 hep2))
    rw [← h3] at h4; exact h4
  have hD10 : 10 ^ en < 65536 ^ 51 := Nat.lt_of_le_of_lt (ten50 hen2) (Nat.pow_lt_pow_right (by decide) (by decide))
  have H6 := Lib.hid (spec_Over false _ p5 (N * 10 ^ ep) (10 ^ en) 70 w5 (HP4.out.chg hk5) hp5 hN10 (Nat.lt_of_lt_of_le hD10 (Nat.pow_le_pow_right (by decide) (by decide))) (Nat.ne_of_gt (ten_pos _)) (by decide))
  have HN10 := Lib.hid (And.intro hN10 hD10)
  clear hp5 hk5 hN10 hD10
  go_wp2_with fail
  refine H6.out.mono ?_
  rintro e6 w6 ⟨c6, d6, A1, B1, rfl, hA1, hB1, v1, v2, v3, v4, hk6⟩
  obtain ⟨c6A, c6n, c6c, rfl⟩ := hA1.slc
  obtain ⟨d6A, d6n, d6c, rfl⟩ := hB1.slc
  have KA6 := KA5.out.then hk6 (fun _ _ _ f => f)
  have kal6 := (Chg.refl No w6).alloc (.cells #[.bool false, .slice c6A c6n c6c, .slice d6A d6n d6c] 31)
  have KA6' := Lib.hid (KA6.then kal6 (fun _ _ _ f => f))
  have hXb : X * 2 ^ E.toNat < 65536 ^ 70 ∧ 2 ^ (-E).toNat < 65536 ^ 70 := parts_bound X 70 E (Nat.lt_of_lt_of_le HXL.out (Nat.pow_le_pow_right (by decide) (by decide))) (by omega) (by omega) (by decide)
  have H7 := Lib.hid (spec_Plus c6A c6n c6c d6A d6n d6c aA an ac bA bn bc A1 B1 (X * 2 ^ E.toNat) (2 ^ (-E).toNat) 70 _ (hA1.chg kal6) (hB1.chg kal6) (HSA.out.1.chg KA6'.out) (HSA.out.2.chg KA6'.out) (Nat.lt_of_le_of_lt v3 HN10.out.1) (Nat.lt_of_le_of_lt v4 (Nat.lt_of_lt_of_le HN10.out.2 (Nat.pow_le_pow_right (by decide) (by decide)))) hXb.1 hXb.2 v2 (Nat.ne_of_gt (Nat.two_pow_pos _)) (by decide))
  have HV := Lib.hid (And.intro v1 (And.intro v2 (And.intro v3 v4)))
  have HXB := Lib.hid hXb
  clear hA1 hB1 v1 v2 v3 v4 hk6 KA6 kal6 hXb
  simp only [Bool.false_and]
  go_wp2_with fail
  refine H7.out.mono ?_
  rintro e7 w7 ⟨nb7, c7, d7, A3, B3, rfl, hA3, hB3, u1, u2, u3, u4, u5, hk7⟩
  obtain ⟨c7A, c7n, c7c, rfl⟩ := hA3.slc
  obtain ⟨d7A, d7n, d7c, rfl⟩ := hB3.slc
  have KA7 := KA6'.out.then hk7 (fun _ _ _ f => f)
  have KA7' := Lib.hid KA7
  have HA3 := Lib.hid (And.intro hA3 hB3)
  have HU := Lib.hid (And.intro u1 (And.intro u2 (And.intro u3 (And.intro u4 u5))))
  clear hA3 hB3 u1 u2 u3 u4 u5 hk7 KA7
  go_wp2_with fail
  have kal7 := (Chg.refl No w7).alloc (.cells #[.bool false, .slice c7A c7n c7c, .slice d7A d7n d7c] 31)
  have G7 := Lib.hid (Bk.new w7 #[.bool false, .slice c7A c7n c7c, .slice d7A d7n d7c] 31)
  have KB := Lib.hid (KA7'.out.then kal7 (fun _ _ _ f => f))
  have KAL7 := Lib.hid kal7
  have HKP : Hid (∀ W, Chg No w2 W → W.cell? ⟨w.heap.size, 0, none⟩ = some (.int .u64 P) ∧ W.cell? ⟨w1.heap.size, 1, none⟩ = some (.slice rA rn rc) ∧ W.cell? ⟨w1.heap.size, 2, none⟩ = some (.int .i64 E)) :=
    Lib.hid fun W hW => ⟨(G02.out.chg hW (fun _ f => f)).cell 0, (G12.out.chg hW (fun _ f => f)).cell 1, (G12.out.chg hW (fun _ f => f)).cell 2⟩
  have H8 : Hid (∀ W, Calls Tryz.prog 30 #[.int .i64 1] W (SnOut 1 W)) := Lib.hid fun W => spec_Small 1 W (by decide)
  have H9 : Hid (∀ W, Chg No w2 W → Calls Tryz.prog 56 #[.slice rA rn rc] W fun e w' => e = .returned (.int .i64 bX) ∧ W = w') := Lib.hid fun W hW => by
    have := spec_Len _ X 10 W (HR2.out.chg hW) (b16 HXL.out (by omega)) (by omega)
    rw [← HB.out] at this; exact this
  have et : E + (bX : Int) - (P : Int) - 1 = tt := ht.symm
  have ew : IntKind.i64.wrap (IntKind.i64.wrap (IntKind.i64.wrap (E + (bX : Int)) - (P : Int)) - 1) = tt := by rw [IntWalk.i64_in (E + (bX : Int)) (by omega), IntWalk.i64_in (E + (bX : Int) - (P : Int)) (by omega), et]; exact IntWalk.i64_in _ (by omega)
  have eP : IntKind.i64.wrap (P : Int) = (P : Int) := IntWalk.i64_in _ (by omega)
  have ht1 : -400 ≤ tt := by omega
  have ht2 : tt ≤ 400 := by omega
  clear ht kal7
  generalize w7.alloc (.cells #[.bool false, .slice c7A c7n c7c, .slice d7A d7n d7c] 31) = w8 at KB KAL7 G7 ⊢
  go_cut [12] (fun tv wx => ∃ b rA rn rc, tv = .pointer (some ⟨b, 0, none⟩) ∧ Hid (Bk wx b #[.bool false, .slice rA rn rc, .int .i64 tt]) ∧ Hid (Sn wx (.slice rA rn rc) 1) ∧ Hid (Chg No w8 wx))
  case first =>
    go_region_held3 (fun W => W.cell? ⟨w.heap.size, 0, none⟩ = some (.int .u64 P) ∧ W.cell? ⟨w1.heap.size, 1, none⟩ = some (.slice rA rn rc) ∧ W.cell? ⟨w1.heap.size, 2, none⟩ = some (.int .i64 E)) (first | assumption | exact HKP.out _ KB.out.drew | exact HKP.out _ (KB9.out.alloc _) | exact HKP.out _ (KB.out.drew.alloc _) | exact HKP.out _ KZ) (first
      | (go_at_call 30; (with_reducible refine (H8.out _).mono ?_); rintro e9 w9 ⟨r9, rfl, hr9, hk9⟩; obtain ⟨r9A, r9n, r9c, rfl⟩ := hr9.slc; have kb9 : Chg No w2 w9 := (by first | exact KB.out.drew.then hk9 (fun _ _ _ f => f) | exact (KB.out.drew.alloc _).then hk9 (fun _ _ _ f => f)); have hS9 := HKP.out w9 kb9; have KB9 := Lib.hid kb9; have K89 : Hid (Chg No w8 w9) := Lib.hid (by first | exact (Chg.refl No w8).drew.then hk9 (fun _ _ _ f => f) | exact ((Chg.refl No w8).drew.alloc _).then hk9 (fun _ _ _ f => f)); have HR9 := Lib.hid hr9; (first | (have bz : Bk w9 w8.heap.size #[.bool false, .slice none 0 0, .int .i64 0] := (Bk.new w8.drew #[.bool false, .slice none 0 0, .int .i64 0] 47).chg hk9 (fun _ f => f); have z0 := bz.cell 0; have z1 := bz.cell 1; have z2 := bz.cell 2; simp only [List.getElem?_toArray] at z0 z1 z2; have y0 := bz.plain.free 0; have y1 := bz.plain.free 1; have y2 := bz.plain.free 2; have BZ := Lib.hid bz; have KZ := kb9.then (bz.st3_chg (noWB_bool _) (noWB_slice _ _ _) (noWB_int _) (.bool false) (.slice r9A r9n r9c) (.int .i64 tt)) (fun y o hy f => absurd f (Nat.ne_of_lt (Nat.lt_of_lt_of_le hy KB.out.size))); clear bz) | skip); clear hr9 hk9)
      | (go_at_call 56; (with_reducible refine (H9.out _ (by first | exact KB9.out | exact KB9.out.alloc _)).mono ?_); rintro e10 w10 ⟨rfl, rfl⟩))
    all_goals
      go_wp2_with fail
      go_meet
      first
        | exact ⟨w9.heap.size, _, _, _, rfl, Lib.hid (Bk.new w9 _ 47), Lib.hid (HR9.out.chg ((Chg.refl No w9).alloc _)), Lib.hid (K89.out.alloc _)⟩
        | exact ⟨w8.heap.size, _, _, _, rfl, Lib.hid (BZ.out.st3 _ _ _), Lib.hid (HR9.out.other (BZ.out.st3_chg (noWB_bool _) (noWB_slice _ _ _) (noWB_int _) _ _ _) (BZ.out.safe zero47 HR9.out)), Lib.hid (K89.out.then (BZ.out.st3_chg (noWB_bool _) (noWB_slice _ _ _) (noWB_int _) _ _ _) (fun y o hy f => absurd f (Nat.ne_of_lt hy)))⟩
  case rest =>
    obtain ⟨b12, sA, sn, sc, rfl, B12, S12, K12⟩ := hcut
    have b0 := B12.out.cell 0
    have b1 := B12.out.cell 1
    have b2 := B12.out.cell 2
    simp only [List.getElem?_toArray] at b0 b1 b2
    have HPt2 := Lib.hid (laws_parts false _ 1 1 tt wc S12.out (by decide) (by decide) (by omega) (by omega))
    have G7c := Lib.hid (G7.out.chg K12.out (fun _ f => f))
    clear HKP H8 H9
    go_wp2_with fail
    refine HPt2.out.mono ?_
    rintro e13 w13 ⟨c13, d13, rfl, hc13, hd13, hk13⟩
    obtain ⟨c13A, c13n, c13c, rfl⟩ := hc13.slc
    obtain ⟨d13A, d13n, d13c, rfl⟩ := hd13.slc
    have G13 := G7c.out.chg hk13 (fun _ f => f)
    have K13 := Lib.hid (K12.out.then hk13 (fun _ _ _ f => f))
    have HK : Hid (∀ W, Chg No w13 W → W.cell? ⟨w7.heap.size, 0, none⟩ = some (.bool false) ∧ W.cell? ⟨w7.heap.size, 1, none⟩ = some (.slice c7A c7n c7c) ∧ W.cell? ⟨w7.heap.size, 2, none⟩ = some (.slice d7A d7n d7c)) :=
      Lib.hid fun W hW => ⟨(G13.chg hW (fun _ f => f)).cell 0, (G13.chg hW (fun _ f => f)).cell 1, (G13.chg hW (fun _ f => f)).cell 2⟩
    have hT1 : 1 * 2 ^ tt.toNat < 65536 ^ 70 := by rw [Nat.one_mul]; exact b16 (Nat.pow_lt_pow_right (by decide) (Nat.lt_succ_self _)) (by omega)
    have hT2 : 2 ^ (-tt).toNat < 65536 ^ 70 := b16 (Nat.pow_lt_pow_right (by decide) (Nat.lt_succ_self _)) (by omega)
    have HO := Lib.hid (fun W (hW : Chg No w13 W) => spec_Over false _ _ _ _ 70 W (hc13.chg hW) (hd13.chg hW) hT1 hT2 (Nat.ne_of_gt (Nat.two_pow_pos _)) (by decide))
    have hbig : A3 < 65536 ^ 141 ∧ B3 < 65536 ^ 141 := by
      obtain ⟨v1, v2, v3, v4⟩ := HV.out
      have n1 := Nat.lt_of_le_of_lt v3 HN10.out.1
      have n2 := Nat.lt_of_le_of_lt v4 (Nat.lt_of_lt_of_le HN10.out.2 (Nat.pow_le_pow_right (by decide) (show 51 ≤ 70 by decide)))
      have m1 := mul_bound n1 HXB.out.2
      have m2 := mul_bound HXB.out.1 n2
      have m3 := mul_bound n2 HXB.out.2
      have e141 : (65536 : Nat) ^ 141 = 65536 ^ (2 * 70) * 65536 := Nat.pow_succ _ _
      have u3 := HU.out.2.2.1
      have u2 := HU.out.2.1
      generalize (65536 : Nat) ^ (2 * 70) = Z at *
      rw [e141]
      constructor <;> omega
    have HBIG := Lib.hid hbig
    have HT := Lib.hid (And.intro hT1 hT2)
    have HA13 := Lib.hid (And.intro (HA3.out.1.chg (KAL7.out.then K13.out (fun _ _ _ f => f))) (HA3.out.2.chg (KAL7.out.then K13.out (fun _ _ _ f => f))))
    clear hc13 hd13 hk13 G13 hT1 hT2 hbig b0 b1 b2
    go_wp2_with fail
    go_region_held3 (fun W => W.cell? ⟨w7.heap.size, 0, none⟩ = some (.bool false) ∧ W.cell? ⟨w7.heap.size, 1, none⟩ = some (.slice c7A c7n c7c) ∧ W.cell? ⟨w7.heap.size, 2, none⟩ = some (.slice d7A d7n d7c)) (first | assumption | exact HK.out _ (Chg.refl No w13).drew) (first
      | (go_at_call 78; (with_reducible refine (HO.out _ (Chg.refl No w13).drew).mono ?_); rintro e14 w14 ⟨c14, d14, A4, B4, rfl, ha4, hb4, v1, v2, v3, v4, hk14⟩; obtain ⟨c14A, c14n, c14c, rfl⟩ := ha4.slc; obtain ⟨d14A, d14n, d14c, rfl⟩ := hb4.slc; simp only [Bool.false_and]; have k14 := (Chg.refl No w13).drew.then hk14 (fun _ _ _ f => f); have hS14 := HK.out w14 k14; have hA4 : A4 ≠ 0 := (by rintro rfl; have h0 : 1 * 2 ^ tt.toNat * B4 ≠ 0 := Nat.mul_ne_zero (by have := Nat.two_pow_pos tt.toNat; omega) v2; rw [Nat.zero_mul] at v1; exact h0 v1.symm); have HCmp := Lib.hid (spec_Compare c7A c7n c7c d7A d7n d7c c14A c14n c14c d14A d14n d14c A3 B3 A4 B4 141 w14 (HA13.out.1.chg k14) (HA13.out.2.chg k14) ha4 hb4 HBIG.out.1 HBIG.out.2 (Nat.lt_of_le_of_lt v3 (Nat.lt_of_lt_of_le HT.out.1 (Nat.pow_le_pow_right (by decide) (by decide)))) (Nat.lt_of_le_of_lt v4 (Nat.lt_of_lt_of_le HT.out.2 (Nat.pow_le_pow_right (by decide) (by decide)))) HU.out.1 v2 hA4 (by decide)); have K14 := Lib.hid k14; have HV4 := Lib.hid v1; clear ha4 hb4 v1 v2 v3 v4 hk14 k14 hA4)
      | (go_at_call 80; (with_reducible refine HCmp.out.mono ?_); rintro e15 w15 ⟨cc, rfl, z1, z2, hk15⟩; have hS15 := HK.out w15 (K14.out.then hk15 (fun _ _ _ f => f)); have K15 := Lib.hid (K14.out.then hk15 (fun _ _ _ f => f)); have HC := Lib.hid (And.intro z1 z2); clear z1 z2 hk15))
    all_goals
      have hge : 0 ≤ cc := by
        refine HC.out.1 ?_
        obtain ⟨v1, v2, -, -⟩ := HV.out
        obtain ⟨-, -, -, u4, u5⟩ := HU.out
        have h4 := HV4.out
        rw [Nat.one_mul] at h4
        rw [HEE.out.1, HEE.out.2] at v1
        exact outOf_cmp HOO.out v1 v2 (fun h => (u4 h).2) (fun h => (u5 h).2) h4
      have tge : decide (cc < 0) = false := decide_eq_false (by omega)
      go_wp2_with fail
      go_ret
      exact ⟨by rw [tge]; rfl, K2.out.then (KB.out.then (K13.out.then K15.out (fun _ _ _ f => f)) (fun _ _ _ f => f)) (fun _ _ _ f => f)⟩
set_option maxRecDepth 100000 in
set_option maxHeartbeats 1000000 in
theorem spec_away0 (odd : Bool) (left : Int) (w : World) (h0 : 0 ≤ left) (h3 : left ≤ 3) :
    Calls Tryz.prog 127 #[.bool false, .bool odd, .int .i64 left, .int .i64 0] w fun e w' => e = .returned (.bool (decide (left = 3) || (decide (left = 2) && odd))) ∧ w = w' := by
  rcases (show left = 0 ∨ left = 1 ∨ left = 2 ∨ left = 3 by omega) with rfl | rfl | rfl | rfl <;>
  · clear h0 h3
    go_enter Tryz.func127, Tryz.ntmps127
    go_wp2_with fail
    go_ret
    exact ⟨by cases odd <;> rfl, rfl⟩
/-- What is left of the next unit. -/
def leftOf (X n : Nat) : Int := if X % 2 ^ n = 0 then 0 else 2 + cmp3 (2 * (X % 2 ^ n)) (2 ^ n)
def SplitOut (X n : Nat) (w : World) (e : Ending) (w' : World) : Prop := ∃ q, e = .returned (.tuple #[q, .int .i64 (leftOf X n)]) ∧ Sn w' q (X / 2 ^ n) ∧ Chg No w w'
theorem Sn.slc' {w : World} {v : Value} {X : Nat} (h : Sn w v X) : ∃ A n c, v = .slice A n c := by obtain ⟨l, A, c, e, _⟩ := h.view; exact ⟨_, _, _, e⟩
theorem Sn.zero_len' {w : World} {A : Option Addr} {m c X : Nat} (h : Sn w (.slice A m c) X) : (m = 0 ↔ X = 0) := by
  obtain ⟨l, A', c', e, hle, hr, rfl, hd, ht⟩ := h.view
  cases e
  constructor
  · intro h0
    have : l = [] := List.length_eq_zero_iff.1 h0
    subst this; rfl
  · intro h0
    rcases Nat.eq_zero_or_pos l.length with h | h
    · exact h
    · have h1 := Vb_ge ht h
      have := Nat.pow_pos (n := l.length - 1) (show 0 < 65536 by decide)
      omega
theorem cmp3_bd (x y : Nat) : -1 ≤ cmp3 x y ∧ cmp3 x y ≤ 1 := by
  unfold cmp3; split
  · omega
  · split <;> omega
theorem leftOf_bd (X n : Nat) : 0 ≤ leftOf X n ∧ leftOf X n ≤ 3 := by
  unfold leftOf
  have := cmp3_bd (2 * (X % 2 ^ n)) (2 ^ n)
  split <;> omega
set_option maxRecDepth 100000 in
set_option maxHeartbeats 2000000 in
theorem spec_split (x : Value) (X n m : Nat) (w : World) (hx : Sn w x X) (hX : X < 65536 ^ m) (hm : m ≤ 1000) (hn : n ≤ 16 * m) :
    Calls Tryz.prog 126 #[x, .int .i64 n] w (SplitOut X n w) := by
  obtain ⟨xA, xn, xc, rfl⟩ := hx.slc'
  have H1 := Lib.hid (spec_Shr _ X m n w hx hX (by omega) (by omega))
  have HX := Lib.hid (And.intro hx hX)
  clear hx hX
  go_enter Tryz.func126, Tryz.ntmps126
  go_wp2_with fail
  refine H1.out.mono ?_
  rintro e w1 ⟨q, rfl, hq, hk1⟩
  obtain ⟨qA, qn, qc, rfl⟩ := hq.slc'
  have hqb : X / 2 ^ n < 65536 ^ m := Nat.lt_of_le_of_lt (Nat.div_le_self _ _) HX.out.2
  have H2 := Lib.hid (spec_Shl _ (X / 2 ^ n) m n w1 hq hqb (by omega) (by omega))
  have HQ := Lib.hid hq
  have K1 := Lib.hid hk1
  clear hq hk1 hqb
  go_wp2_with fail
  refine H2.out.mono ?_
  rintro e w2 ⟨s, rfl, hs, hk2⟩
  have hle : X / 2 ^ n * 2 ^ n ≤ X := Nat.div_mul_le_self _ _
  have hsub : X - X / 2 ^ n * 2 ^ n = X % 2 ^ n := by
    have := Nat.div_add_mod X (2 ^ n)
    rw [Nat.mul_comm] at this; omega
  have H3 := spec_Sub _ s X (X / 2 ^ n * 2 ^ n) m w2 (HX.out.1.chg (K1.out.then hk2 (fun _ _ _ f => f))) hs HX.out.2 hle (by omega)
  rw [hsub] at H3
  have H3 := Lib.hid H3
  have K2 := Lib.hid (K1.out.then hk2 (fun _ _ _ f => f))
  have HQ2 := Lib.hid (HQ.out.chg hk2)
  clear hs hk2 hle hsub
  go_wp2_with fail
  refine H3.out.mono ?_
  rintro e w3 ⟨r, rfl, hr, hk3⟩
  obtain ⟨rA, rn, rc, rfl⟩ := hr.slc'
  have hz := hr.zero_len'
  have HQ3 := Lib.hid (HQ2.out.chg hk3)
  have K3 := Lib.hid (K2.out.then hk3 (fun _ _ _ f => f))
  by_cases h0 : X % 2 ^ n = 0
  · obtain rfl := hz.2 h0
    have HL : Hid (leftOf X n = 0) := Lib.hid (by unfold leftOf; rw [if_pos h0])
    clear hz hr hk3 h0
    go_wp2_with fail
    go_ret2
    exact ⟨_, by rw [HL.out]; rfl, HQ3.out, K3.out⟩
  · have hrn : rn ≠ 0 := fun h => h0 (hz.1 h)
    have t1 : ((rn : Int) == 0) = false := beq_eq_false_iff_ne.2 (by omega)
    have hrb : X % 2 ^ n < 65536 ^ m := Nat.lt_of_le_of_lt (Nat.mod_le _ _) HX.out.2
    have H4 := spec_Add _ _ (X % 2 ^ n) (X % 2 ^ n) m w3 hr hr hrb hrb (by omega)
    rw [← Nat.two_mul] at H4
    have H4 := Lib.hid H4
    obtain ⟨c, hc⟩ : ∃ c, c = cmp3 (2 * (X % 2 ^ n)) (2 ^ n) := ⟨_, rfl⟩
    have hcb := cmp3_bd (2 * (X % 2 ^ n)) (2 ^ n)
    rw [← hc] at hcb
    have HL : Hid (leftOf X n = 2 + c) := Lib.hid (by unfold leftOf; rw [if_neg h0, hc])
    have HC := Lib.hid hc
    have HB : Hid (2 * (X % 2 ^ n) < 65536 ^ (m + 1) ∧ 2 ^ n < 65536 ^ (m + 1)) := Lib.hid ⟨by rw [Nat.pow_succ]; omega, by
      rw [show (65536 : Nat) = 2 ^ 16 by decide, ← Nat.pow_mul]; exact Nat.pow_lt_pow_right (by decide) (by omega)⟩
    clear hz hr hk3 h0 hrn hrb hc
    go_wp2_with fail
    refine H4.out.mono ?_
    rintro e w4 ⟨d, rfl, hd, hk4⟩
    have H5 := Lib.hid (spec_Bit n w4 (by omega))
    have HD := Lib.hid hd
    have HQ4 := Lib.hid (HQ3.out.chg hk4)
    have K4 := Lib.hid (K3.out.then hk4 (fun _ _ _ f => f))
    clear hd hk4
    go_wp2_with fail
    refine H5.out.mono ?_
    rintro e w5 ⟨b, rfl, hb, hk5⟩
    have H6 := spec_Cmp d b _ _ (m + 1) w5 (HD.out.chg hk5) hb HB.out.1 HB.out.2 (by omega)
    rw [← HC.out] at H6
    have H6 := Lib.hid H6
    have HQ5 := Lib.hid (HQ4.out.chg hk5)
    have K5 := Lib.hid (K4.out.then hk5 (fun _ _ _ f => f))
    clear hb hk5
    go_wp2_with fail
    refine H6.out.mono ?_
    rintro e w6 ⟨rfl, hk6⟩
    have HQ6 := Lib.hid (HQ5.out.chg hk6)
    have K6 := Lib.hid (K5.out.then hk6 (fun _ _ _ f => f))
    clear hk6
    go_wp2_with fail
    go_ret2
    exact ⟨_, by rw [HL.out]; rfl, HQ6.out, K6.out⟩
def CutOut (X n : Nat) (w : World) (e : Ending) (w' : World) : Prop := ∃ (q : Value) (s : Int), e = .returned (.tuple #[q, .int .i64 s]) ∧ Sn w' q (rhe X n) ∧ Chg No w w'
theorem rhe_left (X n : Nat) : rhe X n = if leftOf X n = 3 ∨ (leftOf X n = 2 ∧ X / 2 ^ n % 2 = 1) then X / 2 ^ n + 1 else X / 2 ^ n := by
  unfold rhe leftOf
  have hD := Nat.two_pow_pos n
  generalize X % 2 ^ n = R at *
  generalize X / 2 ^ n = Q at *
  generalize 2 ^ n = D at *
  by_cases h0 : R = 0
  · subst h0
    rw [if_neg (by omega), if_pos rfl, if_neg (by omega)]
  · rw [if_neg h0]
    rcases Nat.lt_trichotomy (2 * R) D with h | h | h
    · rw [cmp3_lt h, if_neg (by omega), if_neg (by omega)]
    · rw [cmp3_eq h]
      by_cases ho : Q % 2 = 1
      · rw [if_pos (by omega), if_pos (by omega)]
      · rw [if_neg (by omega), if_neg (by omega)]
    · rw [cmp3_gt h, if_pos (by omega), if_pos (by omega)]
set_option maxRecDepth 100000 in
set_option maxHeartbeats 2000000 in
theorem spec_Cut0 (x : Value) (X n m : Nat) (w : World) (hx : Sn w x X) (hX : X < 65536 ^ m) (hm : m ≤ 1000) (hn0 : 0 < n) (hn : n ≤ 16 * m) :
    Calls Tryz.prog 73 #[.bool false, x, .int .i64 n, .int .i64 0] w (CutOut X n w) := by
  obtain ⟨xA, xn, xc, rfl⟩ := hx.slc'
  have H1 := Lib.hid (spec_split _ X n m w hx hX hm hn)
  obtain ⟨lf, hlf⟩ : ∃ lf, lf = leftOf X n := ⟨_, rfl⟩
  have hbd := leftOf_bd X n
  have HR := rhe_left X n
  rw [← hlf] at hbd HR
  have HR := Lib.hid HR
  have HLF := Lib.hid hlf
  have HX := Lib.hid hX
  have i0 : ¬ (n : Int) ≤ 0 := by omega
  clear hx hX hlf
  go_enter Tryz.func73, Tryz.ntmps73
  go_wp2_with fail
  refine H1.out.mono ?_
  rintro e w1 ⟨q, rfl, hq, hk1⟩
  obtain ⟨qA, qn, qc, rfl⟩ := hq.slc'
  rw [← HLF.out]
  have HQ := Lib.hid hq
  have K1 := Lib.hid hk1
  by_cases h0 : lf = 0
  · subst h0
    have HR := Lib.hid (show rhe X n = X / 2 ^ n by rw [HR.out, if_neg (by omega)])
    clear hq hk1
    go_wp2_with fail
    go_ret2
    exact ⟨_, _, rfl, by rw [HR.out]; exact HQ.out, K1.out⟩
  · have t1 : (lf == 0) = false := beq_eq_false_iff_ne.2 h0
    have hqb : X / 2 ^ n < 65536 ^ m := Nat.lt_of_le_of_lt (Nat.div_le_self _ _) HX.out
    have H2 := spec_Has _ (X / 2 ^ n) m 0 w1 hq hqb (by omega) (by omega)
    rw [Nat.pow_zero, Nat.div_one] at H2
    obtain ⟨od, hod⟩ : ∃ od, od = decide (X / 2 ^ n % 2 = 1) := ⟨_, rfl⟩
    rw [← hod] at H2
    have H2 := Lib.hid H2
    have HOD := Lib.hid hod
    have HQB := Lib.hid hqb
    clear hq hk1 hqb hod
    go_wp2_with fail
    refine H2.out.mono ?_
    rintro e w2 ⟨rfl, hk2⟩
    have H3 := Lib.hid (spec_away0 od lf w2 hbd.1 hbd.2)
    have HQ2 := Lib.hid (HQ.out.chg hk2)
    have K2 := Lib.hid (K1.out.then hk2 (fun _ _ _ f => f))
    clear hk2
    by_cases hup : lf = 3 ∨ (lf = 2 ∧ X / 2 ^ n % 2 = 1)
    · have hb : (decide (lf = 3) || (decide (lf = 2) && od)) = true := by
        rw [HOD.out]; simpa using hup
      rw [hb] at H3
      have HR := Lib.hid (show rhe X n = X / 2 ^ n + 1 by rw [HR.out, if_pos hup])
      clear hup hb
      go_wp2_with fail
      refine H3.out.mono ?_
      rintro e w3 ⟨rfl, rfl⟩
      have H4 := Lib.hid (spec_Small 1 w2 (by decide))
      go_wp2_with fail
      refine H4.out.mono ?_
      rintro e w4 ⟨o, rfl, ho, hk4⟩
      have H5 := Lib.hid (spec_Add _ o (X / 2 ^ n) 1 (m + 1) w4 (HQ2.out.chg hk4) ho (Nat.lt_of_lt_of_le HQB.out (Nat.pow_le_pow_right (by decide) (by omega))) (Nat.one_lt_pow (by omega) (by decide)) (by omega))
      have K4 := Lib.hid (K2.out.then hk4 (fun _ _ _ f => f))
      clear ho hk4
      go_wp2_with fail
      refine H5.out.mono ?_
      rintro e w5 ⟨q5, rfl, hq5, hk5⟩
      have HQ5 := Lib.hid hq5
      have K5 := Lib.hid (K4.out.then hk5 (fun _ _ _ f => f))
      clear hq5 hk5
      go_wp2_with fail
      go_ret2
      exact ⟨_, _, rfl, by rw [HR.out]; exact HQ5.out, K5.out⟩
    · have hb : (decide (lf = 3) || (decide (lf = 2) && od)) = false := by
        rw [HOD.out]; simpa using hup
      rw [hb] at H3
      have HR := Lib.hid (show rhe X n = X / 2 ^ n by rw [HR.out, if_neg hup])
      clear hup hb
      go_wp2_with fail
      refine H3.out.mono ?_
      rintro e w3 ⟨rfl, rfl⟩
      go_wp2_with fail
      go_ret2
      exact ⟨_, _, rfl, by rw [HR.out]; exact HQ2.out, K2.out⟩
theorem three_bk (w : World) (us vs xs : Array Value) (t t' t'' : TypeId) : Bk (((w.alloc (.cells us t)).alloc (.cells vs t')).alloc (.cells xs t'')) w.heap.size us ∧ Bk (((w.alloc (.cells us t)).alloc (.cells vs t')).alloc (.cells xs t'')) (w.heap.size + 1) vs ∧ Bk (((w.alloc (.cells us t)).alloc (.cells vs t')).alloc (.cells xs t'')) (w.heap.size + 1 + 1) xs ∧ Chg No w (((w.alloc (.cells us t)).alloc (.cells vs t')).alloc (.cells xs t'')) := by
  obtain ⟨g1, g2, k⟩ := two_new w us vs t t'
  have s2 : ((w.alloc (.cells us t)).alloc (.cells vs t')).heap.size = w.heap.size + 1 + 1 := by simp
  have g3 := Bk.new ((w.alloc (.cells us t)).alloc (.cells vs t')) xs t''
  have k3 := (Chg.refl No ((w.alloc (.cells us t)).alloc (.cells vs t'))).alloc (.cells xs t'')
  rw [s2] at g3
  exact ⟨g1.chg k3 (fun _ f => f), g2.chg k3 (fun _ f => f), g3, k.then k3 (fun _ _ _ f => f)⟩
def RoundOut (Q s : Nat) (E : Int) (w : World) (e : Ending) (w' : World) : Prop := ∃ (q : Value) (a : Int), e = .returned (.tuple #[.agg #[.bool false, q, .int .i64 (E + s)], .int .i64 a]) ∧ Sn w' q (rhe Q s) ∧ Chg No w w'
set_option maxRecDepth 100000 in
set_option maxHeartbeats 2000000 in
theorem spec_Round0 (qA : Option Addr) (qn qc : Nat) (Q P s m : Nat) (E : Int) (w : World) (hq : Sn w (.slice qA qn qc) Q) (hQ : Q < 65536 ^ m) (hm : m ≤ 1000) (hs0 : 0 < s) (hs : blen Q = P + s) (hE1 : -100000 ≤ E) (hE2 : E ≤ 100000) :
    Calls Tryz.prog 36 #[.agg #[.bool false, .slice qA qn qc, .int .i64 E], .int .i64 P, .int .i64 0] w (RoundOut Q s E w) := by
  have hbl : blen Q ≤ 16 * m := by
    by_cases h0 : Q = 0
    · subst h0; rw [show blen 0 = 0 from rfl] at hs ⊢; omega
    · exact blen_le h0 (by rw [Nat.pow_mul]; exact hQ)
  obtain ⟨g1, g2, k0⟩ := two_new w #[.bool false, .slice qA qn qc, .int .i64 E] #[.bool false, .slice none 0 0, .int .i64 0] 47 47
  obtain ⟨L, hL⟩ : ∃ L, L = blen Q := ⟨_, rfl⟩
  have H1 := spec_Len _ Q m _ (hq.chg k0) hQ (by omega)
  rw [← hL] at H1 hs hbl
  have H1 := Lib.hid H1
  have H2 := Lib.hid (spec_Cut0 _ Q s m _ (hq.chg k0) hQ hm hs0 (by omega))
  have G1 := Lib.hid g1
  have G2 := Lib.hid g2
  have K0 := Lib.hid k0
  have x2 : (L : Int) - (P : Int) = (s : Int) := by omega
  have hLb : L ≤ 16000 := by omega
  have x3 : max 0 (s : Int) = (s : Int) := by omega
  have hP : P ≤ 16000 := by omega
  have hs2 : s ≤ 16000 := by omega
  clear hq hQ hs hbl g1 g2 k0 hL
  go_enter Tryz.func36, Tryz.ntmps36
  go_wp2_with fail
  generalize (w.alloc (.cells #[.bool false, .slice qA qn qc, .int .i64 E] 47)).alloc (.cells #[.bool false, .slice none 0 0, .int .i64 0] 47) = w0 at H1 H2 G1 G2 K0 ⊢
  have c0 : w0.cell? ⟨w.heap.size, 0, none⟩ = some (.bool false) := G1.out.cell 0
  have c1 : w0.cell? ⟨w.heap.size, 1, none⟩ = some (.slice qA qn qc) := G1.out.cell 1
  refine H1.out.mono ?_
  rintro e w1 ⟨rfl, rfl⟩
  go_wp2_with fail
  refine H2.out.mono ?_
  rintro e w2 ⟨q, a, rfl, hq2, hk2⟩
  obtain ⟨q2A, q2n, q2c, rfl⟩ := hq2.slc'
  have G12 := G1.out.chg hk2 (fun _ f => f)
  have g22 := G2.out.chg hk2 (fun _ f => f)
  have G22 := Lib.hid g22
  have HQ := Lib.hid hq2
  have K2 := Lib.hid (K0.out.then hk2 (fun _ _ _ f => f))
  have d0 : w2.cell? ⟨w.heap.size, 0, none⟩ = some (.bool false) := G12.cell 0
  have d2 : w2.cell? ⟨w.heap.size, 2, none⟩ = some (.int .i64 E) := G12.cell 2
  have b0 : w2.cell? ⟨w.heap.size + 1, 0, none⟩ = some (.bool false) := g22.cell 0
  have b1 : w2.cell? ⟨w.heap.size + 1, 1, none⟩ = some (.slice none 0 0) := g22.cell 1
  have b2 : w2.cell? ⟨w.heap.size + 1, 2, none⟩ = some (.int .i64 0) := g22.cell 2
  have f0 := g22.plain.free 0
  have f1 := g22.plain.free 1
  have f2 := g22.plain.free 2
  clear hq2 hk2 G12 g22 c0 c1
  go_wp2_with fail
  have ks := G22.out.st3_chg (noWB_bool _) (noWB_slice _ _ _) (noWB_int _) (.bool false) (.slice q2A q2n q2c) (.int .i64 (E + s))
  refine bodyPost_ret (v := .tuple #[.agg #[.bool false, .slice q2A q2n q2c, .int .i64 (E + s)], .int .i64 a]) ?_ rfl ⟨_, _, rfl, HQ.out.other ks (G22.out.safe zero47 HQ.out), K2.out.then ks (fun y o hy f => by have h : y = w.heap.size + 1 := f; omega)⟩
  have hres : Tryz.f36.results = #[.cell 6 47, .tmp 7] := rfl
  have hl := load47' _ _ _ _ _ (G22.out.st3 (.bool false) (.slice q2A q2n q2c) (.int .i64 (E + s)))
  simp [results, hres, asAddr]
  unfold st3 at hl
  rw [hl]; rfl
/-- A quotient told, ready for rounding. -/
def AheadOut (A B k : Nat) (w : World) (e : Ending) (w' : World) : Prop := ∃ q : Value, e = .returned (.agg #[.bool false, q, .int .i64 (-(k : Int) - 1)]) ∧ Sn w' q (stq (A * 2 ^ k) B) ∧ Chg No w w'
set_option maxRecDepth 100000 in
set_option maxHeartbeats 4000000 in
theorem spec_Ahead0 (aA : Option Addr) (an ac : Nat) (bA : Option Addr) (bn bc : Nat) (A B n k m : Nat) (w : World) (ha : Sn w (.slice aA an ac) A) (hb : Sn w (.slice bA bn bc) B) (hA : A < 65536 ^ m) (hB : B < 65536 ^ m) (hB0 : B ≠ 0) (hm : m ≤ 300) (hn : n ≤ 1000)
    (hk : (k : Int) = max 0 ((n : Int) + 1 + blen B - blen A)) :
    Calls Tryz.prog 37 #[.agg #[.bool false, .slice aA an ac, .int .i64 0], .agg #[.bool false, .slice bA bn bc, .int .i64 0], .int .i64 n] w (AheadOut A B k w) := by
  obtain ⟨g1, g2, g3, k0⟩ := three_bk w #[.bool false, .slice aA an ac, .int .i64 0] #[.bool false, .slice bA bn bc, .int .i64 0] #[.bool false, .slice none 0 0, .int .i64 0] 47 47 47
  obtain ⟨N0, hN0⟩ : ∃ N : Nat, N = 1000 := ⟨_, rfl⟩
  obtain ⟨LA, hLA⟩ : ∃ L, L = blen A := ⟨_, rfl⟩
  obtain ⟨LB, hLB⟩ : ∃ L, L = blen B := ⟨_, rfl⟩
  have hLBb : LB ≤ 16 * m := by rw [hLB]; exact blen_le hB0 (by rw [Nat.pow_mul]; exact hB)
  have hLAb : LA ≤ 16 * m := by
    rw [hLA]
    by_cases h0 : A = 0
    · subst h0; exact Nat.zero_le _
    · exact blen_le h0 (by rw [Nat.pow_mul]; exact hA)
  have H1 : Hid (∀ W, Chg No w W → Calls Tryz.prog 56 #[.slice bA bn bc] W fun e w' => e = .returned (.int .i64 LB) ∧ W = w') := Lib.hid fun W hW => by
    have := spec_Len _ B m W (hb.chg hW) hB (by omega); rw [← hLB] at this; exact this
  have H2 : Hid (∀ W, Chg No w W → Calls Tryz.prog 56 #[.slice aA an ac] W fun e w' => e = .returned (.int .i64 LA) ∧ W = w') := Lib.hid fun W hW => by
    have := spec_Len _ A m W (ha.chg hW) hA (by omega); rw [← hLA] at this; exact this
  rw [← hLA, ← hLB] at hk
  have hkb : k ≤ 6000 := by omega
  have hAk : A * 2 ^ k < 65536 ^ N0 := by
    obtain ⟨T, hT⟩ : ∃ T : Nat, T = 400 := ⟨_, rfl⟩
    have h1 : 2 ^ k ≤ 2 ^ (16 * T) := Nat.pow_le_pow_right (by decide) (by omega)
    rw [Nat.pow_mul] at h1
    have h2 : A * 2 ^ k < 65536 ^ m * (2 ^ 16) ^ T := Nat.lt_of_lt_of_le (Nat.mul_lt_mul_of_pos_right hA (Nat.two_pow_pos _)) (Nat.mul_le_mul_left _ h1)
    have h3 : 65536 ^ m * (2 ^ 16) ^ T = 65536 ^ (m + T) := (Nat.pow_add 65536 m T).symm
    rw [h3] at h2
    exact Nat.lt_of_lt_of_le h2 (Nat.pow_le_pow_right (by decide) (by omega))
  have H3 : Hid (∀ W, Chg No w W → Calls Tryz.prog 57 #[.slice aA an ac, .int .i64 k] W (SnOut (A * 2 ^ k) W)) := Lib.hid fun W hW => spec_Shl _ A m k W (ha.chg hW) hA (by omega) (by omega)
  have HB := Lib.hid (And.intro hb (And.intro hB (And.intro hB0 hAk)))
  have G1 := Lib.hid g1
  have G2 := Lib.hid g2
  have G3 := Lib.hid g3
  have K0 := Lib.hid k0
  have ek : max 0 (IntKind.i64.wrap (IntKind.i64.wrap (IntKind.i64.wrap ((n : Int) + 1) + (LB : Int)) - (LA : Int))) = (k : Int) := by
    rw [IntWalk.i64_in ((n : Int) + 1) (by omega), IntWalk.i64_in ((n : Int) + 1 + (LB : Int)) (by omega), IntWalk.i64_in ((n : Int) + 1 + (LB : Int) - (LA : Int)) (by omega)]; exact hk.symm
  clear ha hb hA hB hB0 hLA hLB hk g1 g2 g3 k0 hAk
  go_enter Tryz.func37, Tryz.ntmps37
  go_wp2_with fail
  generalize ((w.alloc (.cells #[.bool false, .slice aA an ac, .int .i64 0] 47)).alloc (.cells #[.bool false, .slice bA bn bc, .int .i64 0] 47)).alloc (.cells #[.bool false, .slice none 0 0, .int .i64 0] 47) = w0 at G1 G2 G3 K0 ⊢
  have HKP : Hid (∀ W, Chg No w0 W → W.cell? ⟨w.heap.size, 0, none⟩ = some (.bool false) ∧ W.cell? ⟨w.heap.size, 1, none⟩ = some (.slice aA an ac) ∧ W.cell? ⟨w.heap.size, 2, none⟩ = some (.int .i64 0) ∧ W.cell? ⟨w.heap.size + 1, 0, none⟩ = some (.bool false) ∧ W.cell? ⟨w.heap.size + 1, 1, none⟩ = some (.slice bA bn bc) ∧ W.cell? ⟨w.heap.size + 1, 2, none⟩ = some (.int .i64 0)) :=
    Lib.hid fun W hW => ⟨(G1.out.chg hW (fun _ f => f)).cell 0, (G1.out.chg hW (fun _ f => f)).cell 1, (G1.out.chg hW (fun _ f => f)).cell 2, (G2.out.chg hW (fun _ f => f)).cell 0, (G2.out.chg hW (fun _ f => f)).cell 1, (G2.out.chg hW (fun _ f => f)).cell 2⟩
  go_region_held3 (fun W => W.cell? ⟨w.heap.size, 0, none⟩ = some (.bool false) ∧ W.cell? ⟨w.heap.size, 1, none⟩ = some (.slice aA an ac) ∧ W.cell? ⟨w.heap.size, 2, none⟩ = some (.int .i64 0) ∧ W.cell? ⟨w.heap.size + 1, 0, none⟩ = some (.bool false) ∧ W.cell? ⟨w.heap.size + 1, 1, none⟩ = some (.slice bA bn bc) ∧ W.cell? ⟨w.heap.size + 1, 2, none⟩ = some (.int .i64 0)) (first | assumption | exact HKP.out _ (Chg.refl No w0).drew) (first
    | (go_at_call 56; (with_reducible refine (H1.out _ K0.out.drew).mono ?_); rintro e1 w1 ⟨rfl, rfl⟩)
    | (go_at_call 56; (with_reducible refine (H2.out _ K0.out.drew).mono ?_); rintro e2 w2 ⟨rfl, rfl⟩))
  all_goals
    try simp only [ek]
    clear ek
    go_wp2_with fail
    have K1 := Lib.hid K0.out.drew
    have KD := Lib.hid (Chg.refl No w0).drew
    generalize w0.drew = w3 at K1 KD ⊢
    go_region_held3 (fun W => W.cell? ⟨w.heap.size, 0, none⟩ = some (.bool false) ∧ W.cell? ⟨w.heap.size, 1, none⟩ = some (.slice aA an ac) ∧ W.cell? ⟨w.heap.size, 2, none⟩ = some (.int .i64 0) ∧ W.cell? ⟨w.heap.size + 1, 0, none⟩ = some (.bool false) ∧ W.cell? ⟨w.heap.size + 1, 1, none⟩ = some (.slice bA bn bc) ∧ W.cell? ⟨w.heap.size + 1, 2, none⟩ = some (.int .i64 0)) (first | assumption | exact HKP.out _ KD.out.drew) (first
      | (go_at_call 57; (with_reducible refine (H3.out _ K1.out.drew).mono ?_); rintro e4 w4 ⟨r4, rfl, hr4, hk4⟩; obtain ⟨r4A, r4n, r4c, rfl⟩ := hr4.slc'; have hS4 := HKP.out w4 (KD.out.drew.then hk4 (fun _ _ _ f => f)); have K4 := Lib.hid (K1.out.drew.then hk4 (fun _ _ _ f => f)); have KD4 := Lib.hid (KD.out.drew.then hk4 (fun _ _ _ f => f)); have HR4 := Lib.hid hr4; clear hr4 hk4)
      | (go_at_call 39; (with_reducible refine (spec_DivMod _ _ _ B N0 _ HR4.out (HB.out.1.chg K4.out) HB.out.2.2.2 (Nat.lt_of_lt_of_le HB.out.2.1 (Nat.pow_le_pow_right (by decide) (by omega))) HB.out.2.2.1 (by omega)).mono ?_); rintro e5 w5 ⟨q5, r5, rfl, hq5, hr5, hk5⟩; have hS5 := HKP.out w5 (KD4.out.then hk5 (fun _ _ _ f => f)); have K5 := Lib.hid (K4.out.then hk5 (fun _ _ _ f => f)); have KD5 := Lib.hid (KD4.out.then hk5 (fun _ _ _ f => f)); have HQ5 := Lib.hid (And.intro hq5 hr5); clear hq5 hr5 hk5))
    all_goals
      obtain ⟨qA, qn, qc, rfl⟩ := HQ5.out.1.slc'
      obtain ⟨rA, rn, rc, rfl⟩ := HQ5.out.2.slc'
      have hz := HQ5.out.2.zero_len'
      obtain ⟨Qv, hQv⟩ : ∃ Q, Q = A * 2 ^ k / B := ⟨_, rfl⟩
      obtain ⟨Rv, hRv⟩ : ∃ R, R = A * 2 ^ k % B := ⟨_, rfl⟩
      rw [← hRv] at hz
      have hQb : Qv < 65536 ^ N0 := by rw [hQv]; exact Nat.lt_of_le_of_lt (Nat.div_le_self _ _) HB.out.2.2.2
      have HS6 := spec_Shl _ Qv N0 1 w5 (by rw [hQv]; exact HQ5.out.1) hQb (by omega) (by decide)
      rw [Nat.pow_one] at HS6
      have HS6 := Lib.hid HS6
      have HQR := Lib.hid (And.intro hQv (And.intro hRv hQb))
      have HZ := Lib.hid hz
      clear hz hQv hRv hQb hS4 hS5 H1 H2 H3
      go_wp2_with fail
      refine HS6.out.mono ?_
      rintro e6 w6 ⟨q6, rfl, hq6, hk6⟩
      obtain ⟨q6A, q6n, q6c, rfl⟩ := hq6.slc'
      have K6 := Lib.hid (K5.out.then hk6 (fun _ _ _ f => f))
      have KD6 := Lib.hid (KD5.out.then hk6 (fun _ _ _ f => f))
      have HQ6 := Lib.hid hq6
      clear hq6 hk6
      obtain ⟨d0, -, d2, d3, -, d5⟩ := HKP.out w6 KD6.out
      have ex0 : (0 : Int) - 0 - (k : Int) - 1 = -(k : Int) - 1 := by omega
      by_cases h0 : Rv = 0
      · obtain rfl := HZ.out.2 h0
        have HV : Hid (stq (A * 2 ^ k) B = Qv * 2) := Lib.hid (by unfold stq; rw [if_pos (by rw [← HQR.out.2.1]; exact h0), ← HQR.out.1]; omega)
        have g36 := G3.out.chg KD6.out (fun _ f => f)
        have G36 := Lib.hid g36
        have b0 : w6.cell? ⟨w.heap.size + 1 + 1, 0, none⟩ = some (.bool false) := g36.cell 0
        have b1 : w6.cell? ⟨w.heap.size + 1 + 1, 1, none⟩ = some (.slice none 0 0) := g36.cell 1
        have b2 : w6.cell? ⟨w.heap.size + 1 + 1, 2, none⟩ = some (.int .i64 0) := g36.cell 2
        have f0 := g36.plain.free 0
        have f1 := g36.plain.free 1
        have f2 := g36.plain.free 2
        clear h0 g36
        go_wp2_with fail
        have ks := G36.out.st3_chg (noWB_bool _) (noWB_slice _ _ _) (noWB_int _) (.bool false) (.slice q6A q6n q6c) (.int .i64 (-(k : Int) - 1))
        refine bodyPost_ret (v := .agg #[.bool false, .slice q6A q6n q6c, .int .i64 (-(k : Int) - 1)]) ?_ rfl ⟨_, rfl, by rw [HV.out]; exact HQ6.out.other ks (G36.out.safe zero47 HQ6.out), K6.out.then ks (fun y o hy f => by have h : y = w.heap.size + 1 + 1 := f; omega)⟩
        have hres : Tryz.f37.results = #[.cell 6 47] := rfl
        simp [results, hres, asAddr]
        exact load47' _ _ _ _ _ (G36.out.st3 _ _ _)
      · have hrn : rn ≠ 0 := fun h => h0 (HZ.out.1 h)
        have i1 : (0 : Int) < rn := by omega
        have HV : Hid (stq (A * 2 ^ k) B = Qv * 2 + 1) := Lib.hid (by unfold stq; rw [if_neg (by rw [← HQR.out.2.1]; exact h0), ← HQR.out.1]; omega)
        have H7 := Lib.hid (spec_Small 1 w6 (by decide))
        clear h0 hrn d0 d2 d3 d5
        go_wp2_with fail
        refine H7.out.mono ?_
        rintro e7 w7 ⟨o7, rfl, ho7, hk7⟩
        have H8 := Lib.hid (spec_Add _ o7 (Qv * 2) 1 (N0 + 1) w7 (HQ6.out.chg hk7) ho7 (by have := HQR.out.2.2; rw [Nat.pow_succ]; omega) (Nat.one_lt_pow (by omega) (by decide)) (by omega))
        have K7 := Lib.hid (K6.out.then hk7 (fun _ _ _ f => f))
        have KD7 := Lib.hid (KD6.out.then hk7 (fun _ _ _ f => f))
        clear ho7 hk7
        go_wp2_with fail
        refine H8.out.mono ?_
        rintro e8 w8 ⟨q8, rfl, hq8, hk8⟩
        obtain ⟨q8A, q8n, q8c, rfl⟩ := hq8.slc'
        have K8 := Lib.hid (K7.out.then hk8 (fun _ _ _ f => f))
        have KD8 := KD7.out.then hk8 (fun _ _ _ f => f)
        have HQ8 := Lib.hid hq8
        obtain ⟨d0, -, d2, d3, -, d5⟩ := HKP.out w8 KD8
        have g38 := G3.out.chg KD8 (fun _ f => f)
        have G38 := Lib.hid g38
        have b0 : w8.cell? ⟨w.heap.size + 1 + 1, 0, none⟩ = some (.bool false) := g38.cell 0
        have b1 : w8.cell? ⟨w.heap.size + 1 + 1, 1, none⟩ = some (.slice none 0 0) := g38.cell 1
        have b2 : w8.cell? ⟨w.heap.size + 1 + 1, 2, none⟩ = some (.int .i64 0) := g38.cell 2
        have f0 := g38.plain.free 0
        have f1 := g38.plain.free 1
        have f2 := g38.plain.free 2
        clear hq8 hk8 KD8 g38
        go_wp2_with fail
        have ks := G38.out.st3_chg (noWB_bool _) (noWB_slice _ _ _) (noWB_int _) (.bool false) (.slice q8A q8n q8c) (.int .i64 (-(k : Int) - 1))
        refine bodyPost_ret (v := .agg #[.bool false, .slice q8A q8n q8c, .int .i64 (-(k : Int) - 1)]) ?_ rfl ⟨_, rfl, by rw [HV.out]; exact HQ8.out.other ks (G38.out.safe zero47 HQ8.out), K8.out.then ks (fun y o hy f => by have h : y = w.heap.size + 1 + 1 := f; omega)⟩
        have hres : Tryz.f37.results = #[.cell 6 47] := rfl
        simp [results, hres, asAddr]
        exact load47' _ _ _ _ _ (G38.out.st3 _ _ _)
set_option maxRecDepth 100000 in
set_option maxHeartbeats 4000000 in
theorem spec_Sum_eq (nb : Bool) (aA : Option Addr) (an ac : Nat) (bA : Option Addr) (bn bc : Nat) (A B d m : Nat) (E1 E2 : Int) (w : World) (ha : Sn w (.slice aA an ac) A) (hb : Sn w (.slice bA bn bc) B) (hA : A < 65536 ^ m) (hB : B < 65536 ^ m) (hm : m ≤ 300)
    (hE : E2 - E1 = d) (hAB : A = B * 2 ^ d) (h1 : -20000 ≤ E1) (h2 : E2 ≤ 20000) :
    Calls Tryz.prog 75 #[.agg #[.bool nb, .slice aA an ac, .int .i64 E1], .agg #[.bool (!nb), .slice bA bn bc, .int .i64 E2]] w fun e w' => ∃ rA rn rc, e = .returned (.agg #[.bool nb, .slice rA rn rc, .int .i64 E1]) ∧ Sn w' (.slice rA rn rc) 0 ∧ Chg No w w' := by
  obtain ⟨g1, g2, g3, k0⟩ := three_bk w #[.bool nb, .slice aA an ac, .int .i64 E1] #[.bool (!nb), .slice bA bn bc, .int .i64 E2] #[.bool false, .slice none 0 0, .int .i64 0] 47 47 47
  have H1 : Hid (∀ W, Chg No w W → Calls Tryz.prog 57 #[.slice aA an ac, .int .i64 0] W (SnOut A W)) := Lib.hid fun W hW => by
    have := spec_Shl _ A m 0 W (ha.chg hW) hA (by omega) (by omega)
    rw [Nat.pow_zero, Nat.mul_one] at this; exact this
  have H2 : Hid (∀ W, Chg No w W → Calls Tryz.prog 57 #[.slice bA bn bc, .int .i64 d] W (SnOut A W)) := Lib.hid fun W hW => by
    have := spec_Shl _ B m d W (hb.chg hW) hB (by omega) (by omega)
    rw [← hAB] at this; exact this
  have G1 := Lib.hid g1
  have G2 := Lib.hid g2
  have G3 := Lib.hid g3
  have K0 := Lib.hid k0
  have HA := Lib.hid hA
  have y1 : min E1 E2 = E1 := by omega
  have y2 : min E2 E1 = E1 := by omega
  have y3 : IntKind.i64.wrap 0 = 0 := rfl
  have y4 : IntKind.i64.wrap (E2 - E1) = (d : Int) := by rw [hE]; exact IntWalk.i64_in _ (by omega)
  clear ha hb hA hB hAB g1 g2 g3 k0 hE
  go_enter Tryz.func75, Tryz.ntmps75
  go_wp2_with fail
  generalize ((w.alloc (.cells #[.bool nb, .slice aA an ac, .int .i64 E1] 47)).alloc (.cells #[.bool (!nb), .slice bA bn bc, .int .i64 E2] 47)).alloc (.cells #[.bool false, .slice none 0 0, .int .i64 0] 47) = w0 at G1 G2 G3 K0 ⊢
  have HKP : Hid (∀ W, Chg No w0 W → W.cell? ⟨w.heap.size, 0, none⟩ = some (.bool nb) ∧ W.cell? ⟨w.heap.size, 1, none⟩ = some (.slice aA an ac) ∧ W.cell? ⟨w.heap.size, 2, none⟩ = some (.int .i64 E1) ∧ W.cell? ⟨w.heap.size + 1, 0, none⟩ = some (.bool (!nb)) ∧ W.cell? ⟨w.heap.size + 1, 1, none⟩ = some (.slice bA bn bc) ∧ W.cell? ⟨w.heap.size + 1, 2, none⟩ = some (.int .i64 E2)) :=
    Lib.hid fun W hW => ⟨(G1.out.chg hW (fun _ f => f)).cell 0, (G1.out.chg hW (fun _ f => f)).cell 1, (G1.out.chg hW (fun _ f => f)).cell 2, (G2.out.chg hW (fun _ f => f)).cell 0, (G2.out.chg hW (fun _ f => f)).cell 1, (G2.out.chg hW (fun _ f => f)).cell 2⟩
  obtain ⟨c0, c1, c2, c3, c4, c5⟩ := HKP.out w0 (Chg.refl _ _)
  go_wp2_with fail
  go_region_held3 (fun W => W.cell? ⟨w.heap.size, 0, none⟩ = some (.bool nb) ∧ W.cell? ⟨w.heap.size, 1, none⟩ = some (.slice aA an ac) ∧ W.cell? ⟨w.heap.size, 2, none⟩ = some (.int .i64 E1) ∧ W.cell? ⟨w.heap.size + 1, 0, none⟩ = some (.bool (!nb)) ∧ W.cell? ⟨w.heap.size + 1, 1, none⟩ = some (.slice bA bn bc) ∧ W.cell? ⟨w.heap.size + 1, 2, none⟩ = some (.int .i64 E2)) (first | assumption | exact HKP.out _ (Chg.refl No w0).drew) (first
    | (go_at_call 57; (with_reducible refine (H1.out _ K0.out.drew).mono ?_); rintro e1 w1 ⟨r1, rfl, hr1, hk1⟩; obtain ⟨r1A, r1n, r1c, rfl⟩ := hr1.slc'; have hS1 := HKP.out w1 ((Chg.refl No w0).drew.then hk1 (fun _ _ _ f => f)); have K1 := Lib.hid (K0.out.drew.then hk1 (fun _ _ _ f => f)); have KD1 := Lib.hid ((Chg.refl No w0).drew.then hk1 (fun _ _ _ f => f)); have R1 := Lib.hid hr1; clear hr1 hk1)
    | (go_at_call 57; (with_reducible refine (H2.out _ K1.out).mono ?_); rintro e2 w2 ⟨r2, rfl, hr2, hk2⟩; obtain ⟨r2A, r2n, r2c, rfl⟩ := hr2.slc'; have hS2 := HKP.out w2 (KD1.out.then hk2 (fun _ _ _ f => f)); have K2 := Lib.hid (K1.out.then hk2 (fun _ _ _ f => f)); have KD2 := Lib.hid (KD1.out.then hk2 (fun _ _ _ f => f)); have R2 := Lib.hid hr2; have R12 := Lib.hid (R1.out.chg hk2); clear hr2 hk2))
  all_goals
    obtain ⟨c0, c1, c2, c3, c4, c5⟩ := hS2
    have H4 := spec_Cmp _ _ _ _ m w2 R12.out R2.out HA.out HA.out (by omega)
    rw [cmp3_eq rfl] at H4
    have H4 := Lib.hid H4
    have tn : (nb == !nb) = false := by cases nb <;> rfl
    clear hS1 H1 H2
    go_wp2_with fail
    refine H4.out.mono ?_
    rintro e4 w4 ⟨rfl, hk4⟩
    have K4 := Lib.hid (K2.out.then hk4 (fun _ _ _ f => f))
    have KD4 := Lib.hid (KD2.out.then hk4 (fun _ _ _ f => f))
    have hle : A - A = 0 := Nat.sub_self _
    have HSB := Lib.hid (fun W (hW : Chg No w4 W) => spec_Sub _ _ A A m W ((R12.out.chg hk4).chg hW) ((R2.out.chg hk4).chg hW) HA.out (Nat.le_refl _) (by omega))
    rw [hle] at HSB
    clear hk4 hle c0 c1 c2 c3 c4 c5
    go_wp2_with fail
    go_region_held3 (fun W => W.cell? ⟨w.heap.size, 0, none⟩ = some (.bool nb)) (first | assumption | exact (HKP.out _ KD4.out.drew).1 | (rw [cell_setCell_ne _ _ _ _ _ _ (.inl (by omega)), cell_setCell_ne _ _ _ _ _ _ (.inl (by omega)), cell_setCell_ne _ _ _ _ _ _ (.inl (by omega))]; exact hS6)) (first
      | (go_at_call 77; (with_reducible refine (HSB.out _ (Chg.refl No w4).drew).mono ?_); rintro e6 w6 ⟨r6, rfl, hr6, hk6⟩; obtain ⟨r6A, r6n, r6c, rfl⟩ := hr6.slc'; have kd6 := KD4.out.drew.then hk6 (fun _ _ _ f => f); have hS6 := (HKP.out w6 kd6).1; have K6 := Lib.hid (K4.out.drew.then hk6 (fun _ _ _ f => f)); have g36 := G3.out.chg kd6 (fun _ f => f); have G36 := Lib.hid g36; have b0 : w6.cell? ⟨w.heap.size + 1 + 1, 0, none⟩ = some (.bool false) := g36.cell 0; have b1 : w6.cell? ⟨w.heap.size + 1 + 1, 1, none⟩ = some (.slice none 0 0) := g36.cell 1; have b2 : w6.cell? ⟨w.heap.size + 1 + 1, 2, none⟩ = some (.int .i64 0) := g36.cell 2; have f0 := g36.plain.free 0; have f1 := g36.plain.free 1; have f2 := g36.plain.free 2; have HR6 := Lib.hid hr6; clear hr6 hk6 kd6 g36))
    all_goals
      go_wp2_with fail
      have ks := G36.out.st3_chg (noWB_bool _) (noWB_slice _ _ _) (noWB_int _) (.bool nb) (.slice r6A r6n r6c) (.int .i64 E1)
      refine bodyPost_ret (v := .agg #[.bool nb, .slice r6A r6n r6c, .int .i64 E1]) ?_ rfl ⟨_, _, _, rfl, HR6.out.other ks (G36.out.safe zero47 HR6.out), K6.out.then ks (fun y o hy f => by have h : y = w.heap.size + 1 + 1 := f; omega)⟩
      have hres : Tryz.f75.results = #[.cell 4 47] := rfl
      simp [results, hres, asAddr]
      exact load47' _ _ _ _ _ (G36.out.st3 _ _ _)
set_option maxRecDepth 100000 in
set_option maxHeartbeats 4000000 in
theorem spec_Order_eq (nb : Bool) (aA : Option Addr) (an ac : Nat) (bA : Option Addr) (bn bc : Nat) (A B d m : Nat) (E1 E2 : Int) (w : World) (ha : Sn w (.slice aA an ac) A) (hb : Sn w (.slice bA bn bc) B) (hA : A < 65536 ^ m) (hB : B < 65536 ^ m) (hm : m ≤ 300)
    (hE : E2 - E1 = d) (hAB : A = B * 2 ^ d) (h1 : -20000 ≤ E1) (h2 : E2 ≤ 20000) :
    Calls Tryz.prog 38 #[.agg #[.bool nb, .slice aA an ac, .int .i64 E1], .agg #[.bool nb, .slice bA bn bc, .int .i64 E2]] w fun e w' => e = .returned (.int .i64 0) ∧ Chg No w w' := by
  obtain ⟨g1, g2, k0⟩ := two_new w #[.bool nb, .slice aA an ac, .int .i64 E1] #[.bool nb, .slice bA bn bc, .int .i64 E2] 47 47
  have H1 := Lib.hid (fun W => spec_Opposite nb bA bn bc E2 W)
  have H2 := Lib.hid (fun W (hW : Chg No w W) => spec_Sum_eq nb aA an ac bA bn bc A B d m E1 E2 W (ha.chg hW) (hb.chg hW) hA hB hm hE hAB h1 h2)
  have G1 := Lib.hid g1
  have G2 := Lib.hid g2
  have K0 := Lib.hid k0
  clear ha hb hA hB hAB g1 g2 k0 hE
  go_enter Tryz.func38, Tryz.ntmps38
  go_wp2_with fail
  generalize (w.alloc (.cells #[.bool nb, .slice aA an ac, .int .i64 E1] 47)).alloc (.cells #[.bool nb, .slice bA bn bc, .int .i64 E2] 47) = w0 at G1 G2 K0 ⊢
  have HKP : Hid (∀ W, Chg No w0 W → W.cell? ⟨w.heap.size, 0, none⟩ = some (.bool nb) ∧ W.cell? ⟨w.heap.size, 1, none⟩ = some (.slice aA an ac) ∧ W.cell? ⟨w.heap.size, 2, none⟩ = some (.int .i64 E1) ∧ W.cell? ⟨w.heap.size + 1, 0, none⟩ = some (.bool nb) ∧ W.cell? ⟨w.heap.size + 1, 1, none⟩ = some (.slice bA bn bc) ∧ W.cell? ⟨w.heap.size + 1, 2, none⟩ = some (.int .i64 E2)) :=
    Lib.hid fun W hW => ⟨(G1.out.chg hW (fun _ f => f)).cell 0, (G1.out.chg hW (fun _ f => f)).cell 1, (G1.out.chg hW (fun _ f => f)).cell 2, (G2.out.chg hW (fun _ f => f)).cell 0, (G2.out.chg hW (fun _ f => f)).cell 1, (G2.out.chg hW (fun _ f => f)).cell 2⟩
  go_region_held3 (fun W => W.cell? ⟨w.heap.size, 0, none⟩ = some (.bool nb) ∧ W.cell? ⟨w.heap.size, 1, none⟩ = some (.slice aA an ac) ∧ W.cell? ⟨w.heap.size, 2, none⟩ = some (.int .i64 E1) ∧ W.cell? ⟨w.heap.size + 1, 0, none⟩ = some (.bool nb) ∧ W.cell? ⟨w.heap.size + 1, 1, none⟩ = some (.slice bA bn bc) ∧ W.cell? ⟨w.heap.size + 1, 2, none⟩ = some (.int .i64 E2)) (first | assumption | exact HKP.out _ (Chg.refl No w0).drew) (first
    | (go_at_call 76; (with_reducible refine (H1.out _).mono ?_); rintro e1 w1 ⟨rfl, hk1⟩; have hS1 := HKP.out w1 ((Chg.refl No w0).drew.then hk1 (fun _ _ _ f => f)); have K1 := Lib.hid (K0.out.drew.then hk1 (fun _ _ _ f => f)); have KD1 := Lib.hid ((Chg.refl No w0).drew.then hk1 (fun _ _ _ f => f)); clear hk1)
    | (go_at_call 75; (with_reducible refine (H2.out _ K1.out).mono ?_); rintro e2 w2 ⟨rA, rn, rc, rfl, hr2, hk2⟩; have hS2 := HKP.out w2 (KD1.out.then hk2 (fun _ _ _ f => f)); have K2 := Lib.hid (K1.out.then hk2 (fun _ _ _ f => f)); have KD2 := Lib.hid (KD1.out.then hk2 (fun _ _ _ f => f)); have H3 := spec_Sign nb rA rn rc E1 0 w2 hr2; rw [if_pos rfl] at H3; have H3 := Lib.hid H3; clear hr2 hk2)
    | (go_at_call 74; (with_reducible refine H3.out.mono ?_); rintro e3 w3 ⟨rfl, hk3⟩; have hS3 := HKP.out w3 (KD2.out.then hk3 (fun _ _ _ f => f)); have K3 := Lib.hid (K2.out.then hk3 (fun _ _ _ f => f)); clear hk3))
  all_goals
    go_wp2_with fail
    go_ret
    exact ⟨rfl, K3.out⟩
theorem Gr.newb {w0 w : World} {v : Value} {vs : List Value} (h : Gr w0 w v vs) (h0 : 0 < vs.length) : ∃ b cp, v = .slice (some ⟨b, 0, none⟩) vs.length cp ∧ w0.heap.size ≤ b := by
  obtain ⟨_, b, cp, e, h1, h2, h3, _⟩ := h
  refine ⟨b, cp, e, ?_⟩
  rcases h3 with h | h
  · exact h
  · omega
set_option maxRecDepth 100000 in
set_option maxHeartbeats 4000000 in
theorem spec_AddN (x y : Value) (X Y n : Nat) (w : World) (hx : Sn w x X) (hy : Sn w y Y) (hX : X < 65536 ^ n) (hY : Y < 65536 ^ n) (hn : n ≤ 10000) :
    Calls Tryz.prog 41 #[x, y] w (SnNew (X + Y) w) := by
  obtain ⟨ci, hi1, hi2, hi3, hi4⟩ := info_of info3
  have G0 := Lib.hid (Gr.start (Chg.refl No w) 3)
  obtain ⟨la, A, ca, rfl, hca, hra, rfl, hda, hta⟩ := hx.view
  obtain ⟨lb, B, cb, rfl, hcb, hrb, rfl, hdb, htb⟩ := hy.view
  have hla := Sn_len hta hX
  have hlb := Sn_len htb hY
  clear hX hY hx hy
  obtain ⟨na, ena⟩ : ∃ na, na = la.length := ⟨_, rfl⟩
  obtain ⟨nb, enb⟩ : ∃ nb, nb = lb.length := ⟨_, rfl⟩
  rw [← ena] at hla hca ⊢
  rw [← enb] at hlb hcb ⊢
  have HN := Lib.hid (And.intro ena enb)
  have HA := Lib.hid hra
  have HB := Lib.hid hrb
  clear ena enb hra hrb hta htb
  go_enter Tryz.func41, Tryz.ntmps41
  go_wp2_with fail
  go_loopw [5, 6, 7] (fun ov cv iv wr => ∃ c k : Nat, cv = .int .i64 c ∧ iv = .int .i64 k ∧ c ≤ 1 ∧ k ≤ 10000 ∧ Hid (AddSt la lb w wr ov c k)) (fun _ _ iv _ => max na nb - (intOf iv).toNat)
  case atStart => exact ⟨0, 0, rfl, rfl, by omega, by omega, Lib.hid ⟨[], G0.out, by simp [Vb], rfl, by simp⟩⟩
  case round =>
    obtain ⟨c, k, rfl, rfl, hc, hk, hS⟩ := hrel
    have hC := hS.out.chg
    rcases Nat.lt_or_ge k na with h1 | h1 <;> rcases Nat.lt_or_ge k nb with h2 | h2
    · have i1 : (k : Int) < na := by omega
      have d1 : decide ((k : Int) < na) = true := decide_eq_true i1
      obtain ⟨ad, rfl, c1⟩ := (HA.out.chg hC) k (by have := HN.out; omega)
      obtain ⟨u, hu⟩ : ∃ u, u = la.getD k 0 := ⟨_, rfl⟩
      have hu1 : u < 65536 := by rw [hu]; exact dig_lt hda k
      rw [← hu] at c1
      have i2 : (k : Int) < nb := by omega
      have d2 : decide ((k : Int) < nb) = true := decide_eq_true i2
      obtain ⟨bd, rfl, c2⟩ := (HB.out.chg hC) k (by have := HN.out; omega)
      obtain ⟨v, hv⟩ : ∃ v, v = lb.getD k 0 := ⟨_, rfl⟩
      have hv1 : v < 65536 := by rw [hv]; exact dig_lt hdb k
      rw [← hv] at c2
      obtain ⟨m, hm⟩ : ∃ m, m = (c + u + v) % 65536 := ⟨_, rfl⟩
      obtain ⟨q, hq⟩ : ∃ q, q = (c + u + v) / 65536 := ⟨_, rfl⟩
      have e1 : ((c : Int) + u + v) % 65536 = (m : Int) := by omega
      have e2 : ((c : Int) + u + v) / 65536 = (q : Int) := by omega
      have hq1 : q ≤ 1 := by omega
      have HM := Lib.hid (And.intro hm hq)
      have HU := Lib.hid (And.intro hu hv)
      clear hm hq hu hv
      obtain ⟨o, g1, g2, g3, g4⟩ := hS.out
      have HG := Lib.hid g1
      have HO := Lib.hid (And.intro g2 (And.intro g3 g4))
      have hol : o.length ≤ 10000 := by omega
      clear g1 g2 g3 g4 hC
      go_wp2_with (refine wpList_append_gr (w0 := w) rfl (.tmp 41) (.tmp 44) 29 3 rfl ci _ Tryz.underlying29 hi1 hi2 rfl (noWB_int 0) hi3 (by rw [hi4]; omega) _ (ints o) rfl HG.out (.int .i64 m) rfl 3 rfl (by rw [ints_length]; omega) ?_; intro r w2 happ; have HP := Lib.hid happ; clear happ)
      go_roundw
      case rel =>
        refine ⟨q, k + 1, by rw [e2], by go_num, hq1, by omega, Lib.hid ?_⟩
        rw [HM.out.2]
        exact AddSt.next hc ⟨o, HO.out.2.1, HO.out.1, HO.out.2.2, HP.out⟩ HU.out.1.symm HU.out.2.symm HM.out.1
      case measure => simp [intOf]; omega
    · have i1 : (k : Int) < na := by omega
      have d1 : decide ((k : Int) < na) = true := decide_eq_true i1
      obtain ⟨ad, rfl, c1⟩ := (HA.out.chg hC) k (by have := HN.out; omega)
      obtain ⟨u, hu⟩ : ∃ u, u = la.getD k 0 := ⟨_, rfl⟩
      have hu1 : u < 65536 := by rw [hu]; exact dig_lt hda k
      rw [← hu] at c1
      have i2 : ¬ (k : Int) < nb := by omega
      have d2 : decide ((k : Int) < nb) = false := decide_eq_false i2
      obtain ⟨v, hv⟩ : ∃ v, v = lb.getD k 0 := ⟨_, rfl⟩
      obtain rfl : v = 0 := by rw [hv]; exact gd_ge (by have := HN.out; omega)
      obtain ⟨m, hm⟩ : ∃ m, m = (c + u + 0) % 65536 := ⟨_, rfl⟩
      obtain ⟨q, hq⟩ : ∃ q, q = (c + u + 0) / 65536 := ⟨_, rfl⟩
      have e1 : ((c : Int) + u) % 65536 = (m : Int) := by omega
      have e2 : ((c : Int) + u) / 65536 = (q : Int) := by omega
      have hq1 : q ≤ 1 := by omega
      have HM := Lib.hid (And.intro hm hq)
      have HU := Lib.hid (And.intro hu hv)
      clear hm hq hu hv
      obtain ⟨o, g1, g2, g3, g4⟩ := hS.out
      have HG := Lib.hid g1
      have HO := Lib.hid (And.intro g2 (And.intro g3 g4))
      have hol : o.length ≤ 10000 := by omega
      clear g1 g2 g3 g4 hC
      go_wp2_with (refine wpList_append_gr (w0 := w) rfl (.tmp 41) (.tmp 44) 29 3 rfl ci _ Tryz.underlying29 hi1 hi2 rfl (noWB_int 0) hi3 (by rw [hi4]; omega) _ (ints o) rfl HG.out (.int .i64 m) rfl 3 rfl (by rw [ints_length]; omega) ?_; intro r w2 happ; have HP := Lib.hid happ; clear happ)
      go_roundw
      case rel =>
        refine ⟨q, k + 1, by rw [e2], by go_num, hq1, by omega, Lib.hid ?_⟩
        rw [HM.out.2]
        exact AddSt.next hc ⟨o, HO.out.2.1, HO.out.1, HO.out.2.2, HP.out⟩ HU.out.1.symm HU.out.2.symm HM.out.1
      case measure => simp [intOf]; omega
    · have i1 : ¬ (k : Int) < na := by omega
      have d1 : decide ((k : Int) < na) = false := decide_eq_false i1
      have d1n : decide (k < na) = false := decide_eq_false (by omega)
      obtain ⟨u, hu⟩ : ∃ u, u = la.getD k 0 := ⟨_, rfl⟩
      obtain rfl : u = 0 := by rw [hu]; exact gd_ge (by have := HN.out; omega)
      have i2 : (k : Int) < nb := by omega
      have d2 : decide ((k : Int) < nb) = true := decide_eq_true i2
      obtain ⟨bd, rfl, c2⟩ := (HB.out.chg hC) k (by have := HN.out; omega)
      obtain ⟨v, hv⟩ : ∃ v, v = lb.getD k 0 := ⟨_, rfl⟩
      have hv1 : v < 65536 := by rw [hv]; exact dig_lt hdb k
      rw [← hv] at c2
      obtain ⟨m, hm⟩ : ∃ m, m = (c + 0 + v) % 65536 := ⟨_, rfl⟩
      obtain ⟨q, hq⟩ : ∃ q, q = (c + 0 + v) / 65536 := ⟨_, rfl⟩
      have e1 : ((c : Int) + v) % 65536 = (m : Int) := by omega
      have e2 : ((c : Int) + v) / 65536 = (q : Int) := by omega
      have hq1 : q ≤ 1 := by omega
      have HM := Lib.hid (And.intro hm hq)
      have HU := Lib.hid (And.intro hu hv)
      clear hm hq hu hv
      obtain ⟨o, g1, g2, g3, g4⟩ := hS.out
      have HG := Lib.hid g1
      have HO := Lib.hid (And.intro g2 (And.intro g3 g4))
      have hol : o.length ≤ 10000 := by omega
      clear g1 g2 g3 g4 hC
      go_wp2_with (refine wpList_append_gr (w0 := w) rfl (.tmp 41) (.tmp 44) 29 3 rfl ci _ Tryz.underlying29 hi1 hi2 rfl (noWB_int 0) hi3 (by rw [hi4]; omega) _ (ints o) rfl HG.out (.int .i64 m) rfl 3 rfl (by rw [ints_length]; omega) ?_; intro r w2 happ; have HP := Lib.hid happ; clear happ)
      go_roundw
      case rel =>
        refine ⟨q, k + 1, by rw [e2], by go_num, hq1, by omega, Lib.hid ?_⟩
        rw [HM.out.2]
        exact AddSt.next hc ⟨o, HO.out.2.1, HO.out.1, HO.out.2.2, HP.out⟩ HU.out.1.symm HU.out.2.symm HM.out.1
      case measure => simp [intOf]; omega
    · have i1 : ¬ (k : Int) < na := by omega
      have d1 : decide ((k : Int) < na) = false := decide_eq_false i1
      have d1n : decide (k < na) = false := decide_eq_false (by omega)
      have i2 : ¬ (k : Int) < nb := by omega
      have d2 : decide ((k : Int) < nb) = false := decide_eq_false i2
      obtain ⟨o, g1, g2, g3, g4⟩ := hS.out
      have HG := Lib.hid g1
      have hol : o.length ≤ 10000 := by omega
      have HE : Vb (o ++ [c]) = Vb la + Vb lb := by
        rw [List.take_of_length_le (by have := HN.out; omega), List.take_of_length_le (by have := HN.out; omega)] at g2
        rw [Vb_snoc, g3]; exact g2
      have HD := Lib.hid (And.intro HE (snoc_dig g4 (v := c) (by omega)))
      clear g1 g2 g3 g4 hC HE
      go_wp2_with (first
        | (refine wpList_append_gr (w0 := w) rfl (.tmp 48) (.tmp 50) 29 3 rfl ci _ Tryz.underlying29 hi1 hi2 rfl (noWB_int 0) hi3 (by rw [hi4]; omega) _ (ints o) rfl HG.out (.int .i64 c) rfl 3 rfl (by rw [ints_length]; omega) ?_; intro r w2 happ; have HP := Lib.hid happ; obtain ⟨rb, rc, er, hnew⟩ := happ.newb (by simp); rw [show (ints o ++ [Value.int .i64 (c : Nat)]).length = o.length + 1 by simp [ints]] at er; subst er; have ht := spec_trimS (some ⟨rb, 0, none⟩) rc (o ++ [c]) w2 (by have := happ.sl; rw [ints_snoc] at this; rw [List.length_append, List.length_singleton]; exact this) HD.out.2 (by simp; omega); rw [List.length_append, List.length_singleton] at ht; have HT := Lib.hid ht; clear happ ht))
      refine HT.out.mono ?_
      rintro e w3 ⟨k2, rfl, -, hr2, rfl⟩
      have HR := Lib.hid hr2
      clear hr2
      go_wp2_with fail
      go_ret
      exact ⟨_, rfl, by rw [← HD.out.1]; exact HR.out, fun ad k c e => by cases e; exact .inr hnew, HP.out.1⟩
end Go.Proofs.YtacfhndledcmgaaGreatDoor
