/- Lemmas for the law FnBack: impl.Text with all bits reads back. Conditions: those in each theorem; none besides. -/
import Derived.Test.YtacfhndledcmgaaGreatDoorJ29
import Derived.Test.YtacfhndledcmgaaGreatDoorJ33
import Derived.Test.YtacfhndledcmgaaGreatDoorJ19
set_option linter.unusedVariables false
set_option linter.unusedSimpArgs false
namespace Go.Proofs.YtacfhndledcmgaaGreatDoor
open Go.RowKit
theorem upTo_same {X m Z s : Nat} {E F : Int} (h : upTo X m = Z * 2 ^ (64 * m - s)) (hs : s ≤ 64 * m) (hb : blen X ≤ 64 * m) (hF : F = E + blen X - s) : SameVal Z F X E := by
  refine ⟨64 * m - s, 64 * m - blen X, by rw [← h]; rfl, by omega⟩
theorem blen_lt16 {Z K : Nat} (h0 : Z ≠ 0) (h : Z < 16 ^ K) : blen Z ≤ 4 * K := by
  refine blen_le h0 ?_
  rw [Nat.pow_mul]; exact h
theorem hexL_get {Z K p : Nat} (h : p < K) : (hexL Z K).getD p 0 = hexc (Z / 16 ^ (K - 1 - p) % 16) := by
  have h1 : p < (hexL Z K).length := by rw [hexL_length]; exact h
  rw [List.getD_eq_getElem?_getD, List.getElem?_eq_getElem h1]
  simp [hexL]
/-- The text of format p reads back. -/
theorem back_p (n : Bool) {P X m Z K : Nat} {E : Int} (hX : X ≠ 0) (hP0 : 0 < P) (hP : P ≤ 300) (hbP : blen X ≤ P) (hE1 : -1000 ≤ E) (hE2 : E ≤ 1000) (hm : m ≤ 15) (hb : blen X ≤ 64 * m) (h : upTo X m = Z * 2 ^ (64 * m - 4 * K)) (hZ0 : 16 ^ (K - 1) ≤ Z) (hZ : Z < 16 ^ K) (hK0 : 0 < K) (hK : 4 * K ≤ 64 * m) :
    BackTx n P X E (sgn n ++ pTx Z K (E + blen X)) := by
  have hZn : Z ≠ 0 := by have := Nat.pow_pos (n := K - 1) (show 0 < 16 by decide); omega
  have hS : SameVal Z (E + blen X - (4 * K : Nat)) X E := upTo_same h hK hb rfl
  have hB := blen_lt16 hZn hZ
  obtain ⟨e, he⟩ : ∃ e : Int, e = E + blen X := ⟨_, rfl⟩
  have hl : sgn n ++ pTx Z K e = sgn n ++ 48 :: 120 :: ((46 :: hexL Z K) ++ 112 :: (if decide (e < 0) then 45 else 43) :: nTx e.natAbs) := by
    unfold pTx iTx
    by_cases h0 : 0 ≤ e
    · simp [h0, Int.not_lt.2 h0]
    · simp [h0, Int.not_le.1 h0]
  obtain ⟨m1, m2⟩ := mnt_p (Z := Z) (K := K) (ch := fun j => (46 :: hexL Z K).getD j 0) hZ rfl (fun p hp => by
    show (46 :: hexL Z K).getD (1 + p) 0 = _
    rw [Nat.add_comm]; exact hexL_get hp)
  have hml : (46 :: hexL Z K).length = 1 + K := by rw [List.length_cons, hexL_length, Nat.add_comm]
  rw [← hml] at m1 m2
  obtain ⟨q1, q2, q3, q4⟩ := nTx_ok e.natAbs (by omega)
  rw [← he]
  rw [← he] at hS
  refine ⟨by rw [hl]; simp; omega, Z, e - (4 * K : Nat), 16, ?_, hZn, by omega, by omega, by omega, hS⟩
  have hR := reads16 n _ (46 :: hexL Z K) (nTx e.natAbs) e P (K, Z, 0) hl (fun x hx => by
    rcases List.mem_cons.1 hx with rfl | hx
    · decide
    · exact hexL_lt _ _ x hx) q2 q3 (by omega) q1 (by omega) (by omega) m1 m2 hK0 hP0 (by omega) (by omega) (by omega) hZn (by show blen Z ≤ 3000; omega) (hS.cut hZn hX hbP)
  rw [show e - (4 * K : Nat) = (if (0 : Int) ≤ ((K, Z, 0) : Nat × Nat × Int).2.2 then 4 * (((K, Z, 0) : Nat × Nat × Int).2.2 - ((K, Z, 0) : Nat × Nat × Int).1) else 0) + e by simp; omega]
  exact hR
/-- The text of format x reads back. -/
theorem back_x (n : Bool) {P X t O q : Nat} {E : Int} (hX : X = 2 ^ t * O) (hO : O % 2 = 1) (hP0 : 0 < P) (hP : P ≤ 300) (hbP : blen X ≤ P) (hE1 : -1000 ≤ E) (hE2 : E ≤ 1000) (hq1 : 4 * q < blen O + 3) (hq2 : blen O ≤ 4 * q + 1) :
    BackTx n P X E (sgn n ++ xTx (O * 2 ^ (4 * q + 1 - blen O)) (q + 1) (E + blen X - 1)) := by
  have hO0 : O ≠ 0 := by omega
  have hX0 : X ≠ 0 := by rw [hX]; exact Nat.mul_ne_zero (Nat.ne_of_gt (Nat.two_pow_pos _)) hO0
  have hbX : blen X = t + blen O := by rw [hX]; exact blen_pow hO0
  obtain ⟨U, hU⟩ : ∃ U, U = O * 2 ^ (4 * q + 1 - blen O) := ⟨_, rfl⟩
  have hUB : blen U = 4 * q + 1 := by rw [hU, Nat.mul_comm, blen_pow hO0]; omega
  have hU0 : U ≠ 0 := by intro e; rw [e] at hUB; simp [blen] at hUB
  obtain ⟨e, he⟩ : ∃ e : Int, e = E + blen X - 1 := ⟨_, rfl⟩
  have hS : SameVal U (e - (4 * q : Nat)) X E := by
    refine ⟨t, 4 * q + 1 - blen O, ?_, by omega⟩
    rw [hU, hX, Nat.mul_comm (2 ^ t), Nat.mul_right_comm]
  rw [← hU, ← he]
  obtain ⟨w1, w2, w3⟩ := blen_spec hU0
  rw [hUB] at w2 w3
  have hU1 : U / 16 ^ q = 1 := by
    have e16 : (16 : Nat) ^ q = 2 ^ (4 * q) := by rw [show (16 : Nat) = 2 ^ 4 from rfl, ← Nat.pow_mul]
    rw [e16]
    rw [show 4 * q + 1 - 1 = 4 * q by omega] at w2
    have a1 : 1 ≤ U / 2 ^ (4 * q) := (Nat.le_div_iff_mul_le (Nat.two_pow_pos _)).2 (by rw [Nat.one_mul]; exact w2)
    have a2 : U / 2 ^ (4 * q) < 2 := (Nat.div_lt_iff_lt_mul (Nat.two_pow_pos _)).2 (by rw [Nat.mul_comm, ← Nat.pow_succ]; exact w3)
    omega
  obtain ⟨ds, hds⟩ : ∃ ds, ds = (if e.natAbs < 10 then [48] else []) ++ nTx e.natAbs := ⟨_, rfl⟩
  obtain ⟨q1, q2, q3, q4⟩ := nTx0_ok e.natAbs (by omega)
  rw [← hds] at q1 q2 q3 q4
  have hl1 : ∀ mid : List Nat, sgn n ++ ([48, 120, 49] ++ mid ++ [112] ++ (if 0 ≤ e then [43] else [45]) ++ (if e.natAbs < 10 then [48] else []) ++ nTx e.natAbs) = sgn n ++ 48 :: 120 :: ((49 :: mid) ++ 112 :: (if decide (e < 0) then 45 else 43) :: ds) := fun mid => by
    rw [hds, sg_if]; simp
  by_cases hq : q = 0
  · subst hq
    have hl : sgn n ++ xTx U (0 + 1) e = sgn n ++ 48 :: 120 :: ([49] ++ 112 :: (if decide (e < 0) then 45 else 43) :: ds) := by
      have := hl1 []
      unfold xTx
      rw [if_neg (by decide : ¬ 1 < 0 + 1)]
      exact this
    rw [Nat.mul_zero] at hUB hS
    have hUv : U = 1 := by rw [Nat.pow_zero, Nat.div_one] at hU1; exact hU1
    obtain ⟨m1, m2⟩ := mnt_x1 (ch := fun j => [49].getD j 0) rfl
    refine ⟨by rw [hl]; simp; omega, U, e, 16, ?_, hU0, by omega, by omega, by omega, by simpa using hS⟩
    have hR := reads16 n _ [49] ds e P (1, 1, -1) hl (by decide) q2 q3 (by omega) q1 (by decide) (by decide) m1 m2 (by decide) hP0 (by omega) (by omega) (by omega) (by decide) (by decide) (by show P < blen 1 → _; intro h; exfalso; rw [hUv] at hUB; omega)
    rw [hUv] at hR ⊢
    simpa using hR
  · have hl : sgn n ++ xTx U (q + 1) e = sgn n ++ 48 :: 120 :: ((49 :: 46 :: (hexL U (q + 1)).drop 1) ++ 112 :: (if decide (e < 0) then 45 else 43) :: ds) := by
      have := hl1 ([46] ++ (hexL U (q + 1)).drop 1)
      unfold xTx
      rw [if_pos (by omega : 1 < q + 1)]
      exact this
    obtain ⟨m1, m2⟩ := mnt_x (U := U) (D := q + 1) (ch := fun j => (49 :: 46 :: (hexL U (q + 1)).drop 1).getD j 0) (by omega) hU1 rfl rfl (fun p hp => by
      show (49 :: 46 :: (hexL U (q + 1)).drop 1).getD (2 + p) 0 = _
      rw [Nat.add_comm 2 p]
      show ((hexL U (q + 1)).drop 1).getD p 0 = _
      rw [List.getD_eq_getElem?_getD, List.getElem?_drop, ← List.getD_eq_getElem?_getD]
      exact hexL_get (by omega))
    have hml : (49 :: 46 :: (hexL U (q + 1)).drop 1).length = 1 + (q + 1) := by rw [List.length_cons, List.length_cons, List.length_drop, hexL_length]; omega
    rw [← hml] at m1 m2
    refine ⟨by rw [hl]; simp; omega, U, e - (4 * q : Nat), 16, ?_, hU0, by omega, by omega, by omega, hS⟩
    have hR := reads16 n _ (49 :: 46 :: (hexL U (q + 1)).drop 1) ds e P (q + 1, U, 1) hl (fun x hx => by
      rcases List.mem_cons.1 hx with rfl | hx
      · decide
      · rcases List.mem_cons.1 hx with rfl | hx
        · decide
        · exact hexL_lt _ _ x (List.mem_of_mem_drop hx)) q2 q3 (by omega) q1 (by omega) (by omega) m1 m2 (Nat.succ_pos _) hP0 (by omega) (by omega) (by omega) hU0 (by show blen U ≤ 3000; omega) (hS.cut hU0 hX0 hbP)
    rw [show e - (4 * q : Nat) = (if (0 : Int) ≤ ((q + 1, U, 1) : Nat × Nat × Int).2.2 then 4 * (((q + 1, U, 1) : Nat × Nat × Int).2.2 - ((q + 1, U, 1) : Nat × Nat × Int).1) else 0) + e by simp; omega]
    exact hR
/-- The text of format b reads back. -/
theorem back_b (n : Bool) {P X : Nat} {E : Int} {gs : List Nat} (hX : X ≠ 0) (hP0 : 0 < P) (hP : P ≤ 300) (hbP : blen X ≤ P) (hE1 : -1000 ≤ E) (hE2 : E ≤ 1000) (hN : Nd gs = X * 2 ^ (P - blen X)) (hg : ∀ d ∈ gs, d < 10) (hg0 : 0 < gs.length) (hg1 : gs.getD 0 0 ≠ 0) :
    BackTx n P X E (sgn n ++ bTx gs (E + blen X - P)) := by
  obtain ⟨e, he⟩ : ∃ e : Int, e = E + blen X - P := ⟨_, rfl⟩
  have hN0 : Nd gs ≠ 0 := by rw [hN]; exact Nat.mul_ne_zero hX (Nat.ne_of_gt (Nat.two_pow_pos _))
  have hNB : blen (Nd gs) = P := by rw [hN, Nat.mul_comm, blen_pow hX]; omega
  have hS : SameVal (Nd gs) e X E := ⟨0, P - blen X, by rw [hN]; simp, by omega⟩
  rw [← he]
  have hl : sgn n ++ bTx gs e = sgn n ++ (asc gs ++ 112 :: (if decide (e < 0) then 45 else 43) :: nTx e.natAbs) := by
    unfold bTx iTx
    by_cases h0 : 0 ≤ e
    · simp [h0, Int.not_lt.2 h0]
    · simp [h0, Int.not_le.1 h0]
  have hgl : gs.length ≤ 301 := by
    have h1 := Nd_ge hg0 hg1
    have h2 : (2 : Nat) ^ (gs.length - 1) ≤ 10 ^ (gs.length - 1) := Nat.pow_le_pow_left (by decide) _
    have h3 := (blen_spec hN0).2.2
    rw [hNB] at h3
    have h4 := (Nat.pow_lt_pow_iff_right (by decide : 1 < 2)).1 (Nat.lt_of_le_of_lt (Nat.le_trans h2 h1) h3)
    omega
  obtain ⟨q1, q2, q3, q4⟩ := nTx_ok e.natAbs (by omega)
  refine ⟨by rw [hl]; simp; omega, Nd gs, e, 10, ?_, hN0, by omega, by omega, by omega, hS⟩
  exact reads10 n _ gs (nTx e.natAbs) e P hl hg q2 q3 (by omega) q1 (by omega) hg0 hg1 hP0 (by omega) (by omega) (by omega) hN0 (by omega) (hS.cut hN0 hX hbP)
set_option maxRecDepth 100000 in
set_option maxHeartbeats 4000000 in
theorem appendOk_b (b base P M : Nat) (n : Bool) (X : Nat) (E : Int) (xb xo m xc : Nat) (hX0 : X ≠ 0) (hM : M < 6) (hbP : blen X ≤ P) (hP0 : 0 < P) (hP : P ≤ 300) (hE1 : -1000 ≤ E) (hE2 : E ≤ 1000) (hm0 : 0 < m) (hm1 : 64 * (m - 1) < blen X) (hm2 : blen X ≤ 64 * m) :
    AppendOkS 98 b base P M n X E xb xo m xc (BackTx n P X E) := by
  intro buf pre w hb hx hpre hbb hg
  have h17 := hg.size

  have hm5 : m ≤ 5 := by omega
  have HC : Hid (∀ zv wx pre2, App .u8 256 w wx buf zv pre2 → pre2 = pre ++ sgn n → Calls Tryz.prog 190 #[.pointer (some ⟨base, 0, none⟩), zv] wx fun e w' => ∃ r, e = .returned r ∧ ∃ l, BackTx n P X E l ∧ App .u8 256 w w' buf r (pre ++ l)) := Lib.hid (by
    rintro zv wx pre2 hA hp
    have hx1 := hx.chg hA.chg (fun o f => (hbb _ _ f).1 rfl) (fun o f => (hbb _ _ f).2 rfl)
    have hls := hA.ls
    have hp2 : pre2.length ≤ 501 := by rw [hp, List.length_append]; have := sgn_len n; omega
    have hlt := hx.fl.lt
    have hlt2 := hx.nt.1.plain.lt
    have hd : ∀ x o, Fp zv x o → x ≠ base ∧ x ≠ xb := fun x o f => by
      rcases hA.fp x o f with f | f
      · exact hbb _ _ f
      · constructor <;> omega
    have hg2 := hg.chg hA.chg (fun x o f => (hb.fp_lt f).2)
    refine (float_fmtB b base P M n X E xb xo m xc zv pre2 wx hx1 hls hp2 (by omega) hbP (by omega) (by omega) (by omega) (by omega) (by omega) hd hg2).mono ?_
    rintro e w' ⟨r, h1, gs, g1, g2, g3, g4, h3⟩
    refine ⟨r, h1, _, back_b n hX0 hP0 hP hbP hE1 hE2 g1 g2 g3 g4, ?_⟩
    have := hA.trans h3
    rw [hp, List.append_assoc] at this
    exact this)
  obtain ⟨c0, c1, c2, c3, c4, c5, c6, -, -, -, -, -⟩ := hx.fl
  have A0 := Lib.hid (App.refl hb)
  go_enter Tryz.func125, Tryz.ntmps125
  go_upto_if 16 with fail
  go_cut [1] (fun zv wx => ∃ pre', Hid (App .u8 256 w wx buf zv pre') ∧ Hid (pre' = pre ++ sgn n))
  case first =>
    cases n
    · go_wp2_with fail
      go_meet
      exact ⟨pre, A0, Lib.hid (by simp [sgn])⟩
    · go_wp2_with (refine wpList_app1 (w0 := w) (z0 := buf) (l := pre) (c := 45) rfl (.tmp 17) (.tmp 18) rfl rfl rfl A0.out (by omega) (by omega) h17 ?_; intro r w2 ha; have HA := Lib.hid ha; clear ha)
      go_meet
      exact ⟨pre ++ [45], HA, Lib.hid (by simp [sgn])⟩
  case rest =>
    obtain ⟨pre', HA, HP⟩ := hcut
    generalize wc = wa at *
    have hx1 := hx.chg HA.out.chg (fun o f => (hbb _ _ f).1 rfl) (fun o f => (hbb _ _ f).2 rfl)
    obtain ⟨c0, c1, c2, c3, c4, c5, c6, -, -, -, -, -⟩ := hx1.fl
    have H9 := Lib.hid (HC.out _ _ _ HA.out HP.out)
    clear HC
    go_wp2_with fail
    refine H9.out.mono ?_
    rintro e w9 ⟨r, rfl, l, hl, hA9⟩
    have HL := Lib.hid hl
    have HA9 := Lib.hid hA9
    clear hl hA9
    go_wp2_with fail
    go_ret
    exact ⟨_, rfl, l, HL.out, HA9.out⟩
set_option maxRecDepth 100000 in
set_option maxHeartbeats 4000000 in
theorem appendOk_p (b base P M : Nat) (n : Bool) (X : Nat) (E : Int) (xb xo m xc : Nat) (hX0 : X ≠ 0) (hM : M < 6) (hbP : blen X ≤ P) (hP0 : 0 < P) (hP : P ≤ 300) (hE1 : -1000 ≤ E) (hE2 : E ≤ 1000) (hm0 : 0 < m) (hm1 : 64 * (m - 1) < blen X) (hm2 : blen X ≤ 64 * m) :
    AppendOkS 112 b base P M n X E xb xo m xc (BackTx n P X E) := by
  intro buf pre w hb hx hpre hbb hg
  have h17 := hg.size

  have hm5 : m ≤ 5 := by omega
  have HC : Hid (∀ zv wx pre2, App .u8 256 w wx buf zv pre2 → pre2 = pre ++ sgn n → Calls Tryz.prog 191 #[.pointer (some ⟨base, 0, none⟩), zv] wx fun e w' => ∃ r, e = .returned r ∧ ∃ l, BackTx n P X E l ∧ App .u8 256 w w' buf r (pre ++ l)) := Lib.hid (by
    rintro zv wx pre2 hA hp
    have hx1 := hx.chg hA.chg (fun o f => (hbb _ _ f).1 rfl) (fun o f => (hbb _ _ f).2 rfl)
    have hls := hA.ls
    have hp2 : pre2.length ≤ 501 := by rw [hp, List.length_append]; have := sgn_len n; omega
    have hlt := hx.fl.lt
    have hlt2 := hx.nt.1.plain.lt
    have hd : ∀ x o, Fp zv x o → x ≠ base ∧ x ≠ xb := fun x o f => by
      rcases hA.fp x o f with f | f
      · exact hbb _ _ f
      · constructor <;> omega
    have hg2 := hg.chg hA.chg (fun x o f => (hb.fp_lt f).2)
    refine (float_fmtP b base P M n X E xb xo m xc zv pre2 wx hx1 hls hp2 (by omega) (by omega) (by omega) hd hg2).mono ?_
    rintro e w' ⟨r, h1, Z, K, g1, g2, g3, g4, g5, h3⟩
    refine ⟨r, h1, _, back_p n hX0 hP0 hP hbP hE1 hE2 (by omega) hx1.hi g1 g2 g3 g4 g5, ?_⟩
    have := hA.trans h3
    rw [hp, List.append_assoc] at this
    exact this)
  obtain ⟨c0, c1, c2, c3, c4, c5, c6, -, -, -, -, -⟩ := hx.fl
  have A0 := Lib.hid (App.refl hb)
  go_enter Tryz.func125, Tryz.ntmps125
  go_upto_if 16 with fail
  go_cut [1] (fun zv wx => ∃ pre', Hid (App .u8 256 w wx buf zv pre') ∧ Hid (pre' = pre ++ sgn n))
  case first =>
    cases n
    · go_wp2_with fail
      go_meet
      exact ⟨pre, A0, Lib.hid (by simp [sgn])⟩
    · go_wp2_with (refine wpList_app1 (w0 := w) (z0 := buf) (l := pre) (c := 45) rfl (.tmp 17) (.tmp 18) rfl rfl rfl A0.out (by omega) (by omega) h17 ?_; intro r w2 ha; have HA := Lib.hid ha; clear ha)
      go_meet
      exact ⟨pre ++ [45], HA, Lib.hid (by simp [sgn])⟩
  case rest =>
    obtain ⟨pre', HA, HP⟩ := hcut
    generalize wc = wa at *
    have hx1 := hx.chg HA.out.chg (fun o f => (hbb _ _ f).1 rfl) (fun o f => (hbb _ _ f).2 rfl)
    obtain ⟨c0, c1, c2, c3, c4, c5, c6, -, -, -, -, -⟩ := hx1.fl
    have H9 := Lib.hid (HC.out _ _ _ HA.out HP.out)
    clear HC
    go_wp2_with fail
    refine H9.out.mono ?_
    rintro e w9 ⟨r, rfl, l, hl, hA9⟩
    have HL := Lib.hid hl
    have HA9 := Lib.hid hA9
    clear hl hA9
    go_wp2_with fail
    go_ret
    exact ⟨_, rfl, l, HL.out, HA9.out⟩
set_option maxRecDepth 100000 in
set_option maxHeartbeats 4000000 in
theorem appendOk_x (b base P M : Nat) (n : Bool) (X : Nat) (E : Int) (xb xo m xc : Nat) (hX0 : X ≠ 0) (hM : M < 6) (hbP : blen X ≤ P) (hP0 : 0 < P) (hP : P ≤ 300) (hE1 : -1000 ≤ E) (hE2 : E ≤ 1000) (hm0 : 0 < m) (hm1 : 64 * (m - 1) < blen X) (hm2 : blen X ≤ 64 * m) :
    AppendOkS 120 b base P M n X E xb xo m xc (BackTx n P X E) := by
  intro buf pre w hb hx hpre hbb hg
  have h17 := hg.size
  obtain ⟨t, O, hXO, hO⟩ := odd_part X hX0
  have hm5 : m ≤ 5 := by omega
  have HC : Hid (∀ zv wx pre2, App .u8 256 w wx buf zv pre2 → pre2 = pre ++ sgn n → Calls Tryz.prog 192 #[.pointer (some ⟨base, 0, none⟩), zv, .int .i64 (-1)] wx fun e w' => ∃ r, e = .returned r ∧ ∃ l, BackTx n P X E l ∧ App .u8 256 w w' buf r (pre ++ l)) := Lib.hid (by
    rintro zv wx pre2 hA hp
    have hx1 := hx.chg hA.chg (fun o f => (hbb _ _ f).1 rfl) (fun o f => (hbb _ _ f).2 rfl)
    have hls := hA.ls
    have hp2 : pre2.length ≤ 501 := by rw [hp, List.length_append]; have := sgn_len n; omega
    have hlt := hx.fl.lt
    have hlt2 := hx.nt.1.plain.lt
    have hd : ∀ x o, Fp zv x o → x ≠ base ∧ x ≠ xb := fun x o f => by
      rcases hA.fp x o f with f | f
      · exact hbb _ _ f
      · constructor <;> omega
    have hg2 := hg.chg hA.chg (fun x o f => (hb.fp_lt f).2)
    refine (float_fmtX b base P M n X E xb xo m xc t O zv pre2 wx hx1 hXO hO hls hp2 (by omega) (by omega) hbP hM (by omega) (by omega) hd hg2).mono ?_
    rintro e w' ⟨r, h1, q, g1, g2, h3⟩
    refine ⟨r, h1, _, back_x n hXO hO hP0 hP hbP hE1 hE2 g1 g2, ?_⟩
    have := hA.trans h3
    rw [hp, List.append_assoc] at this
    exact this)
  obtain ⟨c0, c1, c2, c3, c4, c5, c6, -, -, -, -, -⟩ := hx.fl
  have A0 := Lib.hid (App.refl hb)
  go_enter Tryz.func125, Tryz.ntmps125
  go_upto_if 16 with fail
  go_cut [1] (fun zv wx => ∃ pre', Hid (App .u8 256 w wx buf zv pre') ∧ Hid (pre' = pre ++ sgn n))
  case first =>
    cases n
    · go_wp2_with fail
      go_meet
      exact ⟨pre, A0, Lib.hid (by simp [sgn])⟩
    · go_wp2_with (refine wpList_app1 (w0 := w) (z0 := buf) (l := pre) (c := 45) rfl (.tmp 17) (.tmp 18) rfl rfl rfl A0.out (by omega) (by omega) h17 ?_; intro r w2 ha; have HA := Lib.hid ha; clear ha)
      go_meet
      exact ⟨pre ++ [45], HA, Lib.hid (by simp [sgn])⟩
  case rest =>
    obtain ⟨pre', HA, HP⟩ := hcut
    generalize wc = wa at *
    have hx1 := hx.chg HA.out.chg (fun o f => (hbb _ _ f).1 rfl) (fun o f => (hbb _ _ f).2 rfl)
    obtain ⟨c0, c1, c2, c3, c4, c5, c6, -, -, -, -, -⟩ := hx1.fl
    have H9 := Lib.hid (HC.out _ _ _ HA.out HP.out)
    clear HC
    go_wp2_with fail
    refine H9.out.mono ?_
    rintro e w9 ⟨r, rfl, l, hl, hA9⟩
    have HL := Lib.hid hl
    have HA9 := Lib.hid hA9
    clear hl hA9
    go_wp2_with fail
    go_ret
    exact ⟨_, rfl, l, HL.out, HA9.out⟩
/-- 'impl.Text' with all bits, for what the law lets in. -/
theorem text_back (f P M : Nat) (n : Bool) (A : Option Addr) (c : Nat) (l : List Nat) (E : Int) (w : World) (hf : f = 120 ∨ f = 112 ∨ f = 98) (hr : RdU w A l) (hm : ∀ x ∈ l, x < WB) (hg : Glob w) (ho : RealOk 300 1000 P M E l) :
    Calls Tryz.prog 24 #[.agg #[.int .u64 P, .int .i64 M, .int .i64 1, .bool n, .slice A l.length c, .int .i64 E], .int .u8 f, .int .i64 (-1)] w (TextOut (BackTx n P (Vl l) E) w) := by
  obtain ⟨o1, o2, o3, o4, o5, o6, o7, o8, o9⟩ := ho
  have hX : Vl l < 2 ^ P := Nat.lt_of_lt_of_le (blen_spec o6).2.2 (Nat.pow_le_pow_right (by decide) o7)
  refine impl_Text_s f P M n A c l E (BackTx n P (Vl l) E) w (by omega) hm hr (by omega) (by omega) (by omega) hX o6 (by omega) (by omega) hg (fun t ht => ht.1) (fun base b xb xo m xc g0 g1 g2 => ?_)
  rcases hf with rfl | rfl | rfl
  · exact appendOk_x b base P M n (Vl l) E xb xo m xc o6 (by omega) o7 (by omega) o2 (by omega) (by omega) g0 g1 g2
  · exact appendOk_p b base P M n (Vl l) E xb xo m xc o6 (by omega) o7 (by omega) o2 (by omega) (by omega) g0 g1 g2
  · exact appendOk_b b base P M n (Vl l) E xb xo m xc o6 (by omega) o7 (by omega) o2 (by omega) (by omega) g0 g1 g2
end Go.Proofs.YtacfhndledcmgaaGreatDoor
