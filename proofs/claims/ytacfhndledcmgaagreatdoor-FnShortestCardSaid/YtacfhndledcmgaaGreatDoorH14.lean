/- Lemmas for the law FnShortest: the specification side of format e. Conditions: those in each theorem; none besides. -/
import Derived.Test.YtacfhndledcmgaaGreatDoorH11
import Derived.Test.YtacfhndledcmgaaGreatDoorH7
import Derived.Test.YtacfhndledcmgaaGreatDoorH13
import Derived.Test.YtacfhndledcmgaaGreatDoorH8
set_option linter.unusedVariables false
set_option linter.unusedSimpArgs false
namespace Go.Proofs.YtacfhndledcmgaaGreatDoor
open Go.RowKit
set_option maxRecDepth 100000 in
set_option maxHeartbeats 2000000 in
theorem spec_power (k : Int) (w : World) (h1 : -1000 < k) (h2 : k < 1000) :
    Calls Tryz.prog 71 #[.int .i64 k] w fun e w' => e = .returned (.string (txt (expTx k))) ∧ Chg No w w' := by
  obtain ⟨n, hn⟩ : ∃ n, n = k.natAbs := ⟨_, rfl⟩
  have e1 : max k (-k) = (n : Int) := by omega
  have e2 : IntKind.i64.wrap (-k) = -k := IntWalk.i64_in _ (by omega)
  have hn1 : n < 1000 := by omega
  have H1 := Lib.hid (spec_Small n w (by omega))
  have HN := Lib.hid hn
  have HX : Hid (expTx k = (if k < 0 then 45 else 43) :: ((if n < 10 then [48] else []) ++ numTx n)) := Lib.hid (by unfold expTx; rw [← hn])
  clear hn
  go_enter Tryz.func71, Tryz.ntmps71
  go_wp2_with fail
  refine H1.out.mono ?_
  rintro e w1 ⟨s, rfl, hs, hc1⟩
  have H2 := Lib.hid (spec_Digits s n 2 w1 hs (by omega) (by decide))
  have HC1 := Lib.hid hc1
  clear hs hc1
  go_wp2_with fail
  refine H2.out.mono ?_
  rintro e w2 ⟨D, hD, hD5, rfl, hc2⟩
  obtain ⟨b, hb⟩ : ∃ b, b = txt (asc (digs n D)) := ⟨_, rfl⟩
  obtain ⟨d1, d2⟩ := digs_num hD hn1
  have hbs : b.size = D := by rw [hb, txt_size]; simp [asc, digs_length]
  have hbt : b = txt (numTx n) := by rw [hb, d1]
  rw [← hb]
  have HB := Lib.hid (And.intro hbt d2)
  have HC2 := Lib.hid (HC1.out.then hc2 (fun _ _ _ f => f))
  clear hb d1 d2 hbt hD hc2
  have sum : ∀ (u v : ByteArray), u = txt [45] ∨ u = txt [43] → v = (if D < 2 then txt [48] ++ b else b) → ((k < 0 → u = txt [45]) ∧ (0 ≤ k → u = txt [43])) → u ++ v = txt (expTx k) := by
    intro u v _ hv hu
    rw [hv, HX.out, HB.out.1]
    have h10 := HB.out.2
    by_cases hD2 : D < 2
    · rw [if_pos hD2, if_pos (h10.1 hD2)]
      by_cases hk : k < 0
      · rw [hu.1 hk, if_pos hk, txt_append, txt_append]; rfl
      · rw [hu.2 (by omega), if_neg hk, txt_append, txt_append]; rfl
    · rw [if_neg hD2, if_neg (fun h => hD2 (h10.2 h))]
      by_cases hk : k < 0
      · rw [hu.1 hk, if_pos hk, txt_append]; rfl
      · rw [hu.2 (by omega), if_neg hk, txt_append]; rfl
  have SUM := Lib.hid sum
  clear sum
  by_cases hD2 : D < 2
  · have j1 : (D : Int) < 2 := by omega
    by_cases hk : k < 0
    · have j2 : decide (k < 0) = true := decide_eq_true hk
      go_wp2_with fail
      all_goals first
        | (exfalso; rename_i hbig; simp [ByteArray.size_append] at hbig; omega)
        | (go_ret; exact ⟨ret_str (SUM.out _ _ (.inl rfl) (by rw [if_pos hD2]; rfl) ⟨fun _ => rfl, fun h => by omega⟩), HC2.out⟩)
    · have j2 : decide (k < 0) = false := decide_eq_false hk
      go_wp2_with fail
      all_goals first
        | (exfalso; rename_i hbig; simp [ByteArray.size_append] at hbig; omega)
        | (go_ret; exact ⟨ret_str (SUM.out _ _ (.inr rfl) (by rw [if_pos hD2]; rfl) ⟨fun h => by omega, fun _ => rfl⟩), HC2.out⟩)
  · have j1 : ¬ (D : Int) < 2 := by omega
    by_cases hk : k < 0
    · have j2 : decide (k < 0) = true := decide_eq_true hk
      go_wp2_with fail
      all_goals first
        | (exfalso; rename_i hbig; simp [ByteArray.size_append] at hbig; omega)
        | (go_ret; exact ⟨ret_str (SUM.out _ _ (.inl rfl) (by rw [if_neg hD2]) ⟨fun _ => rfl, fun h => by omega⟩), HC2.out⟩)
    · have j2 : decide (k < 0) = false := decide_eq_false hk
      go_wp2_with fail
      all_goals first
        | (exfalso; rename_i hbig; simp [ByteArray.size_append] at hbig; omega)
        | (go_ret; exact ⟨ret_str (SUM.out _ _ (.inr rfl) (by rw [if_neg hD2]) ⟨fun h => by omega, fun _ => rfl⟩), HC2.out⟩)
theorem expTx_len (e : Int) : (expTx e).length ≤ 6 := by
  unfold expTx numTx smallTx
  rw [List.length_cons, List.length_append]
  split <;> split <;> (try split) <;> simp
/-- The text of a number of k + 1 figures with the exponent e. -/
def figTx (neg : Bool) (T k : Nat) (e : Int) (D : Nat) : List Nat := sgn neg ++ ptext T D k ++ [101] ++ expTx e
set_option maxRecDepth 100000 in
set_option maxHeartbeats 2000000 in
theorem spec_Figures (neg : Bool) (x : Value) (X n k : Nat) (ex : Int) (w : World) (hx : Sn w x X) (hX : X < 65536 ^ n) (hn : n ≤ 1000) (hk : k ≤ 100) (h1 : -1000 < ex) (h2 : ex < 1000) :
    Calls Tryz.prog 32 #[.bool neg, x, .int .i64 k, .int .i64 ex] w fun e w' => ∃ D, FigLen X D k ∧ D ≤ 5200 ∧ e = .returned (.string (txt (figTx neg X k ex D))) ∧ Chg No w w' := by
  have HMn := Lib.hid (minus_txt neg w)
  have HP := Lib.hid (spec_Pointed x X n k w hx hX hn hk)
  have HW : Hid (∀ W, Calls Tryz.prog 71 #[.int .i64 ex] W fun e w' => e = .returned (.string (txt (expTx ex))) ∧ Chg No W w') := Lib.hid fun W => spec_power ex W h1 h2
  obtain ⟨xA, xn, xc, rfl⟩ := hx.slc
  clear hx hX
  go_enter Tryz.func32, Tryz.ntmps32
  go_wp2_with fail
  refine HMn.out.mono ?_
  rintro e w1 ⟨rfl, rfl⟩
  go_wp2_with fail
  refine HP.out.mono ?_
  rintro e w2 ⟨D, hD, hD5, rfl, hc2⟩
  have HD := Lib.hid hD
  have HC2 := Lib.hid hc2
  have hpl := ptext_length X D k hD.2.1
  have hs1 : (txt (sgn neg)).size ≤ 1 := by rw [txt_size]; cases neg <;> simp [sgn]
  have hs2 : (txt (ptext X D k)).size ≤ 5201 := by rw [txt_size]; omega
  obtain ⟨b1, hb1⟩ : ∃ b1, b1 = txt (sgn neg) := ⟨_, rfl⟩
  obtain ⟨b2, hb2⟩ : ∃ b2, b2 = txt (ptext X D k) := ⟨_, rfl⟩
  rw [← hb1] at hs1 ⊢
  rw [← hb2] at hs2 ⊢
  have HB := Lib.hid (And.intro hb1 hb2)
  clear hD hc2 hb1 hb2 hpl
  go_wp2_with fail
  all_goals try (exfalso; rename_i hbig; simp [ByteArray.size_append] at hbig; omega)
  refine (HW.out _).mono ?_
  rintro e w3 ⟨rfl, hc3⟩
  have HC3 := Lib.hid (HC2.out.then hc3 (fun _ _ _ f => f))
  have hs3 : (txt (expTx ex)).size ≤ 6 := by rw [txt_size]; exact expTx_len ex
  obtain ⟨b3, hb3⟩ : ∃ b3, b3 = txt (expTx ex) := ⟨_, rfl⟩
  rw [← hb3] at hs3 ⊢
  have HB3 := Lib.hid hb3
  clear hc3 hb3
  go_wp2_with fail
  all_goals try (exfalso; rename_i hbig; simp [ByteArray.size_append] at hbig; omega)
  go_ret
  refine ⟨D, HD.out, hD5, ret_str ?_, HC3.out⟩
  rw [HB.out.1, HB.out.2, HB3.out, show ({ data := #[101] } : ByteArray) = txt [101] from rfl, txt_append, txt_append, txt_append]
  rfl
/-- k is the exponent of the power of 10 that is at most X / Y and more than a tenth of it. -/
def TensIs (X Y : Nat) (k : Int) : Prop := Y * 10 ^ k.toNat ≤ X * 10 ^ (-k).toNat ∧ X * 10 ^ (-k).toNat < Y * 10 ^ k.toNat * 10
/-- The exponent of a value by its figures. -/
theorem tens_of {V D N L : Nat} {x : Int} (hV : V * 10 ^ ((L : Int) - x).toNat = N * 10 ^ (x - (L : Int)).toNat * D) (h0 : 0 < L) (h1 : 10 ^ (L - 1) ≤ N) (h2 : N < 10 ^ L) (hD : 0 < D) : TensIs V D (x - 1) := by
  obtain ⟨u, hu⟩ : ∃ u, u = ((L : Int) - x).toNat := ⟨_, rfl⟩
  obtain ⟨v, hv⟩ : ∃ v, v = (x - (L : Int)).toNat := ⟨_, rfl⟩
  obtain ⟨a, ha⟩ : ∃ a, a = (x - 1).toNat := ⟨_, rfl⟩
  obtain ⟨b, hb⟩ : ∃ b, b = (-(x - 1)).toNat := ⟨_, rfl⟩
  unfold TensIs
  rw [← hu, ← hv] at hV
  rw [← ha, ← hb]
  have hs : a + u = (L - 1) + (v + b) := by omega
  have hU : 0 < 10 ^ u := Nat.pow_pos (by decide)
  have e1 : V * 10 ^ b * 10 ^ u = N * 10 ^ (v + b) * D := by
    have : V * 10 ^ b * 10 ^ u = V * 10 ^ u * 10 ^ b := by grind
    rw [this, hV, Nat.pow_add]; grind
  constructor
  · apply Nat.le_of_mul_le_mul_right _ hU
    have f1 : D * 10 ^ a * 10 ^ u = 10 ^ (L - 1) * 10 ^ (v + b) * D := by
      rw [Nat.mul_assoc, ← Nat.pow_add, hs, Nat.pow_add]; grind
    rw [e1, f1]
    exact Nat.mul_le_mul_right _ (Nat.mul_le_mul_right _ h1)
  · apply Nat.lt_of_mul_lt_mul_right (a := 10 ^ u)
    have f1 : D * 10 ^ a * 10 * 10 ^ u = 10 ^ L * 10 ^ (v + b) * D := by
      have g1 : D * 10 ^ a * 10 * 10 ^ u = D * (10 ^ a * 10 ^ u) * 10 := by grind
      have g2 : 10 ^ L = 10 ^ (L - 1) * 10 := by rw [← Nat.pow_succ]; congr 1; omega
      rw [g1, ← Nat.pow_add, hs, Nat.pow_add, g2]; grind
    rw [e1, f1]
    exact Nat.mul_lt_mul_of_pos_right (Nat.mul_lt_mul_of_pos_right h2 (Nat.pow_pos (by decide))) hD
theorem dec_bound {X : Nat} {E x : Int} {ds : List Nat} (h : DecPure X E ds x) (hX : X < 2 ^ 200) (h1 : -300 ≤ E) (h2 : E ≤ 300) : -800 ≤ x ∧ x ≤ 800 := by
  have hv := h.val
  obtain ⟨_, h0, hh, -, hd, -, -⟩ := h
  have hD0 : 0 < 2 ^ (-E).toNat := Nat.two_pow_pos _
  obtain ⟨t1, t2⟩ := tens_of hv h0 (Nd_ge h0 hh) (Nd_lt ds hd) hD0
  have hN0 : 0 < Nd ds := Nat.lt_of_lt_of_le (Nat.pow_pos (by decide)) (Nd_ge h0 hh)
  have hV0 : 0 < X * 2 ^ E.toNat := by
    rcases Nat.eq_zero_or_pos (X * 2 ^ E.toNat) with h | h
    · rw [h, Nat.zero_mul] at hv
      have := Nat.mul_pos (Nat.mul_pos hN0 (Nat.pow_pos (n := (x - (ds.length : Int)).toNat) (show 0 < 10 by decide))) hD0
      omega
    · exact h
  obtain ⟨p, hp⟩ : ∃ p, p = 200 + E.toNat := ⟨_, rfl⟩
  have hV : X * 2 ^ E.toNat < 10 ^ p := by
    have a1 : X * 2 ^ E.toNat < 2 ^ 200 * 2 ^ E.toNat := Nat.mul_lt_mul_of_pos_right hX (Nat.two_pow_pos _)
    rw [← Nat.pow_add, ← hp] at a1
    exact Nat.lt_of_lt_of_le a1 (Nat.pow_le_pow_left (by decide) _)
  have hB : 2 ^ (-E).toNat ≤ 10 ^ (-E).toNat := Nat.pow_le_pow_left (by decide) _
  generalize X * 2 ^ E.toNat = V at *
  generalize 2 ^ (-E).toNat = B at *
  obtain ⟨a, ha⟩ : ∃ a, a = (x - 1).toNat := ⟨_, rfl⟩
  obtain ⟨b, hb⟩ : ∃ b, b = (-(x - 1)).toNat := ⟨_, rfl⟩
  obtain ⟨r, hr⟩ : ∃ r, r = (-E).toNat := ⟨_, rfl⟩
  rw [← ha, ← hb] at t1 t2
  rw [← hr] at hB
  have hb1 : b < r + 1 + a := by
    have e1 : 1 * 10 ^ b ≤ V * 10 ^ b := Nat.mul_le_mul_right _ hV0
    have e2 : B * 10 ^ a * 10 ≤ 10 ^ r * 10 ^ a * 10 := Nat.mul_le_mul_right _ (Nat.mul_le_mul_right _ hB)
    have e3 : 10 ^ b < 10 ^ (r + 1 + a) := by
      have : 10 ^ (r + 1 + a) = 10 ^ r * 10 ^ a * 10 := by rw [Nat.pow_add, Nat.pow_succ]; grind
      rw [this]; omega
    exact (Nat.pow_lt_pow_iff_right (by decide)).1 e3
  have ha1 : a < p + b := by
    have e1 : 1 * 10 ^ a ≤ B * 10 ^ a := Nat.mul_le_mul_right _ hD0
    have e2 : V * 10 ^ b < 10 ^ p * 10 ^ b := Nat.mul_lt_mul_of_pos_right hV (Nat.pow_pos (by decide))
    have e3 : 10 ^ a < 10 ^ (p + b) := by rw [Nat.pow_add]; omega
    exact (Nat.pow_lt_pow_iff_right (by decide)).1 e3
  clear hv hX hV hB t1 t2 hN0
  omega
end Go.Proofs.YtacfhndledcmgaaGreatDoor
