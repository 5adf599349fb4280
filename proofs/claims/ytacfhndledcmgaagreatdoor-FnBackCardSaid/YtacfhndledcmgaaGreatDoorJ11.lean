/- Lemmas for the law FnBack: words on the left and slices. Conditions: those in each theorem; none besides. -/
import Derived.Test.YtacfhndledcmgaaGreatDoorJ7
import Derived.Test.YtacfhndledcmgaaGreatDoorJ8
set_option linter.unusedVariables false
set_option linter.unusedSimpArgs false
namespace Go.Proofs.YtacfhndledcmgaaGreatDoor
open Go.RowKit
theorem Vb_div (l : List Nat) (hb : ∀ d ∈ l, d < 65536) : ∀ q, Vb l / 65536 ^ q = Vb (l.drop q)
  | 0 => by simp
  | q + 1 => by
    rw [Nat.pow_succ, ← Nat.div_div_eq_div_mul, Vb_div l hb q]
    rcases Nat.lt_or_ge q l.length with h | h
    · have hd : l.drop q = l[q] :: l.drop (q + 1) := List.drop_eq_getElem_cons h
      have := hb l[q] (List.getElem_mem h)
      rw [hd]; simp only [Vb]; omega
    · rw [List.drop_of_length_le h, List.drop_of_length_le (by omega)]; simp [Vb]
theorem Vb_two (l : List Nat) (q : Nat) : ∃ R, Vb (l.drop q) = l.getD q 0 + 65536 * (l.getD (q + 1) 0 + 65536 * R) := by
  rcases Nat.lt_or_ge q l.length with h | h
  · have hd : l.drop q = l[q] :: l.drop (q + 1) := List.drop_eq_getElem_cons h
    rcases Nat.lt_or_ge (q + 1) l.length with h2 | h2
    · have hd2 : l.drop (q + 1) = l[q + 1] :: l.drop (q + 1 + 1) := List.drop_eq_getElem_cons h2
      exact ⟨Vb (l.drop (q + 1 + 1)), by rw [hd, hd2, gd_lt h, gd_lt h2]; simp only [Vb]⟩
    · exact ⟨0, by rw [hd, List.drop_of_length_le h2, gd_lt h, gd_ge h2]; simp [Vb]⟩
  · exact ⟨0, by rw [List.drop_of_length_le h, gd_ge h, gd_ge (by omega)]; simp [Vb]⟩
/-- The digit at a bit of a number. -/
theorem Vb_bits {l : List Nat} (hb : ∀ d ∈ l, d < 65536) {q r : Nat} (hr : r < 16) : Vb l / 2 ^ (16 * q + r) % 65536 = (l.getD q 0 + 65536 * l.getD (q + 1) 0) / 2 ^ r % 65536 := by
  obtain ⟨R, hR⟩ := Vb_two l q
  rw [Nat.pow_add, Nat.pow_mul, show (2 : Nat) ^ 16 = 65536 by decide, ← Nat.div_div_eq_div_mul, Vb_div l hb q, hR]
  obtain ⟨t, ht⟩ : ∃ t, 65536 = 2 ^ r * t := ⟨2 ^ (16 - r), by rw [← Nat.pow_add, show r + (16 - r) = 16 by omega]⟩
  have e : l.getD q 0 + 65536 * (l.getD (q + 1) 0 + 65536 * R) = (l.getD q 0 + 65536 * l.getD (q + 1) 0) + 2 ^ r * (t * (65536 * R)) := by
    rw [← Nat.mul_assoc (2 ^ r), ← ht]; grind
  rw [e, Nat.add_mul_div_left _ _ (Nat.two_pow_pos r), show t * (65536 * R) = 65536 * (t * R) by grind, Nat.add_mul_mod_self_left]
theorem Vb_bit1 {l : List Nat} (hb : ∀ d ∈ l, d < 65536) {q r : Nat} (hr : r < 16) : Vb l / 2 ^ (16 * q + r) % 2 = l.getD q 0 / 2 ^ r % 2 := by
  have h := Vb_bits hb (q := q) hr
  have h1 : Vb l / 2 ^ (16 * q + r) % 2 = (l.getD q 0 + 65536 * l.getD (q + 1) 0) / 2 ^ r % 2 := by omega
  rw [h1]
  obtain ⟨t, ht⟩ : ∃ t, 65536 = 2 ^ r * (2 * t) := ⟨2 ^ (15 - r), by rw [show 2 * 2 ^ (15 - r) = 2 ^ (16 - r) by rw [Nat.mul_comm, ← Nat.pow_succ]; congr 1; omega, ← Nat.pow_add, show r + (16 - r) = 16 by omega]⟩
  have e : l.getD q 0 + 65536 * l.getD (q + 1) 0 = l.getD q 0 + 2 ^ r * (2 * t * l.getD (q + 1) 0) := by
    rw [← Nat.mul_assoc (2 ^ r), ← ht]
  rw [e, Nat.add_mul_div_left _ _ (Nat.two_pow_pos r), Nat.mul_assoc, Nat.add_mul_mod_self_left]
theorem and1i {a : Nat} (h : a < 4294967296) : bits BinOp.and .i64 (a : Int) 1 = ((a % 2 : Nat) : Int) := by
  have h1 : (BitVec.ofInt 64 (a : Int)).toNat = a := by
    rw [BitVec.ofInt_natCast, BitVec.toNat_ofNat]; exact Nat.mod_eq_of_lt (by omega)
  have h2 : (BitVec.ofInt 64 (1 : Int)).toNat = 1 := by decide
  show IntKind.i64.wrap ((BitVec.ofInt 64 (a : Int) &&& BitVec.ofInt 64 (1 : Int)).toNat : Int) = _
  rw [BitVec.toNat_and, h1, h2, show (1 : Nat) = 2 ^ 1 - 1 from rfl, Nat.and_two_pow_sub_one_eq_mod]
  exact IntWalk.i64_in _ (by omega)
theorem int_shr (a r : Nat) : (a : Int) / 2 ^ r = ((a / 2 ^ r : Nat) : Int) := by
  rw [show ((2 : Int) ^ r) = ((2 ^ r : Nat) : Int) from (Int.natCast_pow 2 r).symm]; rfl
set_option maxRecDepth 100000 in
set_option maxHeartbeats 1000000 in
theorem spec_Has (x : Value) (X n i : Nat) (w : World) (hx : Sn w x X) (hX : X < 65536 ^ n) (hn : n ≤ 10000) (hi : i ≤ 200000) :
    Calls Tryz.prog 65 #[x, .int .i64 i] w fun e w' => e = .returned (.bool (decide (X / 2 ^ i % 2 = 1))) ∧ Chg No w w' := by
  obtain ⟨la, A, ca, rfl, hca, hra, rfl, hda, hta⟩ := hx.view
  have hla := Sn_len hta hX
  clear hX hx
  obtain ⟨na, ena⟩ : ∃ na, na = la.length := ⟨_, rfl⟩
  rw [← ena] at hla hca ⊢
  obtain ⟨q, hq⟩ : ∃ q, q = i / 16 := ⟨_, rfl⟩
  obtain ⟨r, hr⟩ : ∃ r, r = i % 16 := ⟨_, rfl⟩
  have e1 : (i : Int) / 16 = (q : Int) := by omega
  have e2 : (i : Int) % 16 = (r : Int) := by omega
  have hr16 : r < 16 := by omega
  have HF := Vb_bit1 hda (q := q) hr16
  rw [show 16 * q + r = i by omega] at HF
  rcases Nat.lt_or_ge q na with hlt | hge
  · obtain ⟨ad, rfl, c1⟩ := hra q (by omega)
    obtain ⟨t, ht⟩ : ∃ t, t = la.getD q 0 := ⟨_, rfl⟩
    have htl : t < 65536 := by rw [ht]; exact dig_lt hda q
    rw [← ht] at c1 HF
    obtain ⟨u, hu⟩ : ∃ u, u = t / 2 ^ r := ⟨_, rfl⟩
    have e3 : (t : Int) / 2 ^ r = (u : Int) := by rw [int_shr, hu]
    have hul : u < 65536 := by rw [hu]; exact Nat.lt_of_le_of_lt (Nat.div_le_self _ _) htl
    obtain ⟨v, hv⟩ : ∃ v, v = u % 2 := ⟨_, rfl⟩
    have e4 : bits BinOp.and .i64 (u : Int) 1 = (v : Int) := by rw [and1i (by omega), hv]
    rw [← hu, ← hv] at HF
    have i1 : (q : Int) < na := by omega
    have hfin : decide (Vb la / 2 ^ i % 2 = 1) = ((v : Int) == 1) := by
      rw [HF]
      by_cases h : v = 1
      · subst h; rfl
      · rw [decide_eq_false h]; exact (beq_eq_false_iff_ne.2 (by omega)).symm
    rw [hfin]
    clear hfin HF hu hv hq hr ht ena hra hda hta
    go_enter Tryz.func65, Tryz.ntmps65
    go_wp2_with fail
    go_ret
    exact ⟨rfl, Chg.refl _ _⟩
  · have i1 : ¬ (q : Int) < na := by omega
    have t1 : decide (q < na) = false := decide_eq_false (by omega)
    rw [gd_ge (by omega)] at HF
    have hfin : decide (Vb la / 2 ^ i % 2 = 1) = false := by rw [HF]; simp
    rw [hfin]
    clear hfin HF hq hr ena hra hda hta hge
    go_enter Tryz.func65, Tryz.ntmps65
    go_wp2_with fail
    go_ret
    exact ⟨rfl, Chg.refl _ _⟩
/-- The state of Shr: the digits told so far. -/
def ShrInv (Y : Nat) (l : List Nat) : Prop := Vb l = Y % 65536 ^ l.length ∧ ∀ d ∈ l, d < 65536
theorem ShrInv.step {Y d : Nat} {l : List Nat} (h : ShrInv Y l) (hd : d = Y / 65536 ^ l.length % 65536) : ShrInv Y (l ++ [d]) := by
  refine ⟨?_, fun e he => ?_⟩
  · rw [Vb_snoc, h.1, List.length_append, List.length_singleton, Nat.mod_pow_succ, hd, Nat.mul_comm]
  · rcases List.mem_append.1 he with h' | h'
    · exact h.2 e h'
    · simp at h'; rw [h', hd]; exact Nat.mod_lt _ (by decide)
set_option maxRecDepth 100000 in
set_option maxHeartbeats 4000000 in
theorem spec_Shr (x : Value) (X n s : Nat) (w : World) (hx : Sn w x X) (hX : X < 65536 ^ n) (hn : n ≤ 10000) (hs : s ≤ 100000) :
    Calls Tryz.prog 66 #[x, .int .i64 s] w (SnOut (X / 2 ^ s) w) := by
  obtain ⟨ci, hi1, hi2, hi3, hi4⟩ := info_of info3
  obtain ⟨la, A, ca, rfl, hca, hra, rfl, hda, hta⟩ := hx.view
  have hla := Sn_len hta hX
  clear hX hx
  obtain ⟨na, ena⟩ : ∃ na, na = la.length := ⟨_, rfl⟩
  rw [← ena] at hla hca ⊢
  obtain ⟨q, hq⟩ : ∃ q, q = s / 16 := ⟨_, rfl⟩
  obtain ⟨r, hr⟩ : ∃ r, r = s % 16 := ⟨_, rfl⟩
  have e1 : (s : Int) / 16 = (q : Int) := by omega
  have e2 : (s : Int) % 16 = (r : Int) := by omega
  have hr16 : r < 16 := by omega
  have hq1 : q ≤ 10000 := by omega
  have HI : Hid (s = 16 * q + r) := Lib.hid (by omega)
  have HE := Lib.hid ena
  have HRA := Lib.hid hra
  have G0 := Lib.hid (Gr.start (Chg.refl No w) 3)
  clear hq hr ena hra hta
  go_enter Tryz.func66, Tryz.ntmps66
  go_wp2_with fail
  go_loopw [5, 6] (fun v iv wr => ∃ (j : Nat) (l : List Nat), iv = .int .i64 ((q + j : Nat) : Int) ∧ q + j ≤ q + na ∧ Hid (Gr w wr v (ints l)) ∧ Hid (ShrInv (Vb la / 2 ^ s) l) ∧ Hid (l.length = j) ∧ Hid (j = 0 ∨ q + j ≤ na)) (fun _ iv _ => (q + na + 1) - (intOf iv).toNat)
  case atStart => exact ⟨0, [], by simp, by omega, G0, Lib.hid ⟨by simp [Vb, Nat.mod_one], by simp⟩, Lib.hid rfl, Lib.hid (.inl rfl)⟩
  case round =>
    obtain ⟨j, l, rfl, hj, hG, hV, hL, hJ⟩ := hrel
    obtain ⟨i, hi⟩ : ∃ i, i = q + j := ⟨_, rfl⟩
    rw [← hi] at hj
    rw [show ((q + j : Nat) : Int) = (i : Int) by omega]
    by_cases hin : i < na
    · obtain ⟨ad, rfl, c1⟩ := (HRA.out.chg hG.out.1) i (by have := HE.out; omega)
      obtain ⟨u, hu⟩ : ∃ u, u = la.getD i 0 := ⟨_, rfl⟩
      have hul : u < 65536 := by rw [hu]; exact dig_lt hda i
      rw [← hu] at c1
      have hbit := Vb_bits hda (q := i) hr16
      rw [← hu] at hbit
      have hY : Vb la / 2 ^ s / 65536 ^ l.length = Vb la / 2 ^ (16 * i + r) := by
        rw [HI.out, hL.out, Nat.div_div_eq_div_mul, show (65536 : Nat) = 2 ^ 16 by decide, ← Nat.pow_mul, ← Nat.pow_add]; congr 2; omega
      have i1 : (i : Int) < na := by omega
      have HI2 := Lib.hid hi
      by_cases hin2 : i + 1 < na
      · obtain ⟨ad2, had2, c2⟩ := (HRA.out.chg hG.out.1) (i + 1) (by have := HE.out; omega)
        obtain rfl : ad = ad2 := by simpa using had2
        obtain ⟨u2, hu2⟩ : ∃ u2, u2 = la.getD (i + 1) 0 := ⟨_, rfl⟩
        have hul2 : u2 < 65536 := by rw [hu2]; exact dig_lt hda _
        rw [← hu2] at c2 hbit
        have c2 : wr.cell? ⟨ad.block, ad.off + (i + 1), none⟩ = some (.int .i64 (u2 : Nat)) := by rw [← c2]; simp [Addr.add]
        have i2 : (i : Int) + 1 < na := by omega
        obtain ⟨m2, hm2⟩ : ∃ m2, m2 = 65536 * u2 := ⟨_, rfl⟩
        have e3 : (65536 : Int) * (u2 : Int) = (m2 : Int) := by omega
        obtain ⟨x2, hx2⟩ : ∃ x2, x2 = u + m2 := ⟨_, rfl⟩
        have e4 : (u : Int) + (m2 : Int) = (x2 : Int) := by omega
        have hm2b : m2 < 4294967296 := by omega
        have hx2b : x2 < 8589934592 := by omega
        obtain ⟨y, hy⟩ : ∃ y, y = x2 / 2 ^ r := ⟨_, rfl⟩
        have e5 : (x2 : Int) / 2 ^ r = (y : Int) := by rw [int_shr, hy]
        obtain ⟨d, hd⟩ : ∃ d, d = y % 65536 := ⟨_, rfl⟩
        have e6 : (y : Int) % 65536 = (d : Int) := by omega
        have HD := Lib.hid (hV.out.step (d := d) (by rw [hY, hbit, hd, hy, hx2, hm2]))
        clear hu hu2 hm2 hx2 hy hd hbit hY hi had2 hV
        go_wp2_with (refine wpList_append_gr (w0 := w) rfl (.tmp 34) (.tmp 40) 29 3 rfl ci _ Tryz.underlying29 hi1 hi2 rfl (noWB_int 0) hi3 (by rw [hi4]; omega) _ (ints l) rfl hG.out (.int .i64 d) rfl 3 rfl (by have := hL.out; have := HI2.out; rw [ints_length]; omega) ?_; intro r2 w2 happ; have HA := Lib.hid happ; clear happ)
        go_roundw
        case rel => exact ⟨j + 1, l ++ [d], by have := HI2.out; go_num, by have := HI2.out; omega, Lib.hid (by rw [← ints_snoc]; exact HA.out), HD, Lib.hid (by have := hL.out; simp; omega), Lib.hid (.inr (by have := HI2.out; omega))⟩
        case measure => simp [intOf]; omega
      · rw [gd_ge (by have := HE.out; omega)] at hbit
        have i2 : ¬ (i : Int) + 1 < na := by omega
        obtain ⟨y, hy⟩ : ∃ y, y = u / 2 ^ r := ⟨_, rfl⟩
        have e5 : (u : Int) / 2 ^ r = (y : Int) := by rw [int_shr, hy]
        obtain ⟨d, hd⟩ : ∃ d, d = y % 65536 := ⟨_, rfl⟩
        have e6 : (y : Int) % 65536 = (d : Int) := by omega
        have HD := Lib.hid (hV.out.step (d := d) (by rw [hY, hbit, hd, hy]; simp))
        clear hu hy hd hbit hY hi hV
        go_wp2_with (refine wpList_append_gr (w0 := w) rfl (.tmp 34) (.tmp 40) 29 3 rfl ci _ Tryz.underlying29 hi1 hi2 rfl (noWB_int 0) hi3 (by rw [hi4]; omega) _ (ints l) rfl hG.out (.int .i64 d) rfl 3 rfl (by have := hL.out; have := HI2.out; rw [ints_length]; omega) ?_; intro r2 w2 happ; have HA := Lib.hid happ; clear happ)
        go_roundw
        case rel => exact ⟨j + 1, l ++ [d], by have := HI2.out; go_num, by have := HI2.out; omega, Lib.hid (by rw [← ints_snoc]; exact HA.out), HD, Lib.hid (by have := hL.out; simp; omega), Lib.hid (.inr (by have := HI2.out; omega))⟩
        case measure => simp [intOf]; omega
    · have i1 : ¬ (i : Int) < na := by omega
      have hval : Vb l = Vb la / 2 ^ s := by
        rw [hV.out.1]
        apply Nat.mod_eq_of_lt
        have h1 := Vb_lt hda
        rw [← HE.out] at h1
        rw [Nat.div_lt_iff_lt_mul (Nat.two_pow_pos s)]
        have h2 : 65536 ^ na ≤ 65536 ^ l.length * 2 ^ s := by
          rw [show (65536 : Nat) = 2 ^ 16 by decide, ← Nat.pow_mul, ← Nat.pow_mul, ← Nat.pow_add]
          exact Nat.pow_le_pow_right (by decide) (by have := HI.out; have := hL.out; omega)
        omega
      have HVA := Lib.hid hval
      obtain ⟨b, c, rfl, -⟩ := hG.out.2
      have HT := Lib.hid (spec_trim _ l wr hG.out.sl hV.out.2 (by have := hL.out; omega))
      clear hi hval
      go_wp2_with fail
      refine HT.out.mono ?_
      rintro e w3 ⟨r2, rfl, hr2, rfl⟩
      have HR := Lib.hid hr2
      clear hr2
      go_wp2_with fail
      go_ret
      exact ⟨_, rfl, by rw [← HVA.out]; exact HR.out, hG.out.1⟩
/-- How often 2 divides. -/
theorem odd_step {X n : Nat} (h : 2 ^ n ∣ X) (hb : X / 2 ^ n % 2 ≠ 1) : 2 ^ (n + 1) ∣ X := by
  obtain ⟨k, rfl⟩ := h
  rw [Nat.mul_div_cancel_left _ (Nat.two_pow_pos n)] at hb
  exact ⟨k / 2, by rw [Nat.pow_succ, Nat.mul_assoc]; congr 1; omega⟩
/-- A number without its divisors 2, and how many these are. -/
def OddOut (X : Nat) (w : World) (e : Ending) (w' : World) : Prop := ∃ r m k, e = .returned (.tuple #[r, .int .i64 (k : Nat)]) ∧ Sn w' r m ∧ X = m * 2 ^ k ∧ m % 2 = 1 ∧ k < blen X ∧ Chg No w w'
set_option maxRecDepth 100000 in
set_option maxHeartbeats 2000000 in
theorem spec_Odd (x : Value) (X n : Nat) (w : World) (hx : Sn w x X) (hX : X < 65536 ^ n) (hn : n ≤ 1000) (hX0 : X ≠ 0) :
    Calls Tryz.prog 27 #[x] w (OddOut X w) := by
  obtain ⟨xA, xn, xc, rfl⟩ : ∃ A n c, x = .slice A n c := by obtain ⟨l, A, c, e, _⟩ := hx.view; exact ⟨_, _, _, e⟩
  have hbl := blen_le (P := 16 * n) hX0 (by rw [Nat.pow_mul]; exact hX)
  obtain ⟨bX, hbX⟩ : ∃ bX, bX = blen X := ⟨_, rfl⟩
  rw [← hbX] at hbl
  have HX := Lib.hid (And.intro hx (And.intro hX hX0))
  have HB := Lib.hid hbX
  have HK : Hid (∀ k, 2 ^ k ∣ X → k < bX) := Lib.hid fun k hk => by
    have h1 := Nat.le_of_dvd (Nat.pos_of_ne_zero hX0) hk
    have h2 := (blen_spec hX0).2.2
    rw [← hbX] at h2
    exact (Nat.pow_lt_pow_iff_right (by decide)).1 (Nat.lt_of_le_of_lt h1 h2)
  clear hx hX hX0 hbX
  go_enter Tryz.func27, Tryz.ntmps27
  go_wp2_with fail
  go_loopw [4] (fun kv wr => ∃ k : Nat, kv = .int .i64 k ∧ k < bX ∧ Hid (2 ^ k ∣ X) ∧ Hid (Chg No w wr)) (fun kv _ => bX - (intOf kv).toNat)
  case atStart => exact ⟨0, rfl, HK.out 0 (by simp), Lib.hid (by simp), Lib.hid (Chg.refl _ _)⟩
  case round =>
    obtain ⟨k, rfl, hk, hD, hC⟩ := hrel
    have H1 := Lib.hid (spec_Has _ X n k wr (HX.out.1.chg hC.out) HX.out.2.1 (by omega) (by omega))
    by_cases hbit : X / 2 ^ k % 2 = 1
    · have H1 := Lib.hid (by have h := H1.out; rwa [decide_eq_true hbit] at h)
      have HBT := Lib.hid hbit
      clear hbit
      go_wp2_with fail
      refine H1.out.mono ?_
      rintro e w1 ⟨rfl, hc1⟩
      have HC1 := Lib.hid (hC.out.then hc1 (fun _ _ _ f => f))
      have H2 := Lib.hid (spec_Shr _ X n k w1 (HX.out.1.chg HC1.out) HX.out.2.1 (by omega) (by omega))
      clear hc1
      go_wp2_with fail
      refine H2.out.mono ?_
      rintro e w2 ⟨r, rfl, hr, hc2⟩
      have HR := Lib.hid hr
      have HC2 := Lib.hid (HC1.out.then hc2 (fun _ _ _ f => f))
      clear hr hc2
      go_wp2_with fail
      go_ret2
      exact ⟨_, _, k, rfl, HR.out, (Nat.div_mul_cancel hD.out).symm, HBT.out, by rw [← HB.out]; exact hk, HC2.out⟩
    · have H1 := Lib.hid (by have h := H1.out; rwa [decide_eq_false hbit] at h)
      have HN := Lib.hid (odd_step hD.out hbit)
      have hk2 := HK.out _ HN.out
      clear hbit
      go_wp2_with fail
      refine H1.out.mono ?_
      rintro e w1 ⟨rfl, hc1⟩
      have HC1 := Lib.hid (hC.out.then hc1 (fun _ _ _ f => f))
      clear hc1
      go_wp2_with fail
      go_roundw
      case rel => exact ⟨k + 1, by go_num, hk2, HN, HC1⟩
      case measure => simp [intOf]; omega
theorem Sn.zero_len {w : World} {A : Option Addr} {m c X : Nat} (h : Sn w (.slice A m c) X) : (m = 0 ↔ X = 0) := by
  obtain ⟨l, A', c', e, hle, hr, rfl, hd, ht⟩ := h.view
  cases e
  constructor
  · intro h0
    have : l = [] := List.length_eq_zero_iff.1 h0
    subst this; rfl
  · intro h0
    rcases Nat.eq_zero_or_pos l.length with h | h
    · exact h
    · have h1 := Vb_ge ht h
      have := Nat.pow_pos (n := l.length - 1) (show 0 < 65536 by decide)
      omega
/-- A block of cells that nothing but its owner writes. -/
def Bk (W : World) (b : Nat) (us : Array Value) : Prop := ∃ t, W.heap[b]? = some (.cells us t (0, 0))
theorem Bk.new (w : World) (us : Array Value) (t : TypeId) : Bk (w.alloc (.cells us t)) w.heap.size us := ⟨t, by show (w.heap.push _)[w.heap.size]? = _; simp⟩
theorem Bk.plain {W : World} {b : Nat} {us : Array Value} (h : Bk W b us) : Plain W b := ⟨_, _, h.choose_spec⟩
theorem Bk.lt {W : World} {b : Nat} {us : Array Value} (h : Bk W b us) : b < W.heap.size := h.plain.lt
theorem Bk.cell {W : World} {b : Nat} {us : Array Value} (h : Bk W b us) (o : Nat) : W.cell? ⟨b, o, none⟩ = us[o]? := by
  obtain ⟨t, h⟩ := h
  simp [World.cell?, h]
theorem Bk.chg {S : Nat → Nat → Prop} {W W' : World} {b : Nat} {us : Array Value} (h : Bk W b us) (hc : Chg S W W') (hS : ∀ o, ¬ S b o) : Bk W' b us := by
  have hb := h.lt
  obtain ⟨t, h⟩ := h
  exact ⟨t, (hc.block _ hb hS).trans h⟩
theorem Bk.set {W : World} {b : Nat} {us : Array Value} (h : Bk W b us) (o : Nat) (v : Value) : Bk (W.setCell ⟨b, o, none⟩ v) b (us.setIfInBounds o v) := by
  obtain ⟨t, h⟩ := h
  exact ⟨t, by simp [World.setCell, Array.getElem?_modify, h]⟩
theorem Bk.set_chg {W : World} {b : Nat} {us : Array Value} {u : Value} (h : Bk W b us) (o : Nat) (v : Value) (hu : us[o]? = some u) (hn : NoWB u) : Chg (Blk b) W (W.setCell ⟨b, o, none⟩ v) :=
  (Chg.refl (Blk b) W).setO v ((h.cell o).trans hu) hn.1 hn.2 (fun _ => rfl)
theorem noWB_slice (A : Option Addr) (n c : Nat) : NoWB (.slice A n c) := ⟨by simp, by simp⟩
end Go.Proofs.YtacfhndledcmgaaGreatDoor
