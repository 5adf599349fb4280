/- Lemmas for the law FnScientific: the specification side: power, Figures, Tens, Scientific. Conditions: those in each theorem; none besides. -/
import Derived.Test.YtacfhndledcmgaaGreatDoorG1
import Derived.Test.YtacfhndledcmgaaGreatDoorF7
set_option linter.unusedVariables false
set_option linter.unusedSimpArgs false
namespace Go.Proofs.YtacfhndledcmgaaGreatDoor
open Go.RowKit
set_option maxRecDepth 100000 in
set_option maxHeartbeats 2000000 in
theorem spec_power (k : Int) (w : World) (h1 : -1000 < k) (h2 : k < 1000) :
    Calls Tryz.prog 71 #[.int .i64 k] w fun e w' => e = .returned (.string (txt (expTx k))) ∧ Chg No w w' := by
  obtain ⟨n, hn⟩ : ∃ n, n = k.natAbs := ⟨_, rfl⟩
  have e1 : max k (-k) = (n : Int) := by omega
  have e2 : IntKind.i64.wrap (-k) = -k := IntWalk.i64_in _ (by omega)
  have hn1 : n < 1000 := by omega
  have H1 := Lib.hid (spec_Small n w (by omega))
  have HN := Lib.hid hn
  have HX : Hid (expTx k = (if k < 0 then 45 else 43) :: ((if n < 10 then [48] else []) ++ numTx n)) := Lib.hid (by unfold expTx; rw [← hn])
  clear hn
  go_enter Tryz.func71, Tryz.ntmps71
  go_wp2_with fail
  refine H1.out.mono ?_
  rintro e w1 ⟨s, rfl, hs, hc1⟩
  have H2 := Lib.hid (spec_Digits s n 2 w1 hs (by omega) (by decide))
  have HC1 := Lib.hid hc1
  clear hs hc1
  go_wp2_with fail
  refine H2.out.mono ?_
  rintro e w2 ⟨D, hD, hD5, rfl, hc2⟩
  obtain ⟨b, hb⟩ : ∃ b, b = txt (asc (digs n D)) := ⟨_, rfl⟩
  obtain ⟨d1, d2⟩ := digs_num hD hn1
  have hbs : b.size = D := by rw [hb, txt_size]; simp [asc, digs_length]
  have hbt : b = txt (numTx n) := by rw [hb, d1]
  rw [← hb]
  have HB := Lib.hid (And.intro hbt d2)
  have HC2 := Lib.hid (HC1.out.then hc2 (fun _ _ _ f => f))
  clear hb d1 d2 hbt hD hc2
  have sum : ∀ (u v : ByteArray), u = txt [45] ∨ u = txt [43] → v = (if D < 2 then txt [48] ++ b else b) → ((k < 0 → u = txt [45]) ∧ (0 ≤ k → u = txt [43])) → u ++ v = txt (expTx k) := by
    intro u v _ hv hu
    rw [hv, HX.out, HB.out.1]
    have h10 := HB.out.2
    by_cases hD2 : D < 2
    · rw [if_pos hD2, if_pos (h10.1 hD2)]
      by_cases hk : k < 0
      · rw [hu.1 hk, if_pos hk, txt_append, txt_append]; rfl
      · rw [hu.2 (by omega), if_neg hk, txt_append, txt_append]; rfl
    · rw [if_neg hD2, if_neg (fun h => hD2 (h10.2 h))]
      by_cases hk : k < 0
      · rw [hu.1 hk, if_pos hk, txt_append]; rfl
      · rw [hu.2 (by omega), if_neg hk, txt_append]; rfl
  have SUM := Lib.hid sum
  clear sum
  by_cases hD2 : D < 2
  · have j1 : (D : Int) < 2 := by omega
    by_cases hk : k < 0
    · have j2 : decide (k < 0) = true := decide_eq_true hk
      go_wp2_with fail
      all_goals first
        | (exfalso; rename_i hbig; simp [ByteArray.size_append] at hbig; omega)
        | (go_ret; exact ⟨ret_str (SUM.out _ _ (.inl rfl) (by rw [if_pos hD2]; rfl) ⟨fun _ => rfl, fun h => by omega⟩), HC2.out⟩)
    · have j2 : decide (k < 0) = false := decide_eq_false hk
      go_wp2_with fail
      all_goals first
        | (exfalso; rename_i hbig; simp [ByteArray.size_append] at hbig; omega)
        | (go_ret; exact ⟨ret_str (SUM.out _ _ (.inr rfl) (by rw [if_pos hD2]; rfl) ⟨fun h => by omega, fun _ => rfl⟩), HC2.out⟩)
  · have j1 : ¬ (D : Int) < 2 := by omega
    by_cases hk : k < 0
    · have j2 : decide (k < 0) = true := decide_eq_true hk
      go_wp2_with fail
      all_goals first
        | (exfalso; rename_i hbig; simp [ByteArray.size_append] at hbig; omega)
        | (go_ret; exact ⟨ret_str (SUM.out _ _ (.inl rfl) (by rw [if_neg hD2]) ⟨fun _ => rfl, fun h => by omega⟩), HC2.out⟩)
    · have j2 : decide (k < 0) = false := decide_eq_false hk
      go_wp2_with fail
      all_goals first
        | (exfalso; rename_i hbig; simp [ByteArray.size_append] at hbig; omega)
        | (go_ret; exact ⟨ret_str (SUM.out _ _ (.inr rfl) (by rw [if_neg hD2]) ⟨fun h => by omega, fun _ => rfl⟩), HC2.out⟩)
theorem expTx_len (e : Int) : (expTx e).length ≤ 6 := by
  unfold expTx numTx smallTx
  rw [List.length_cons, List.length_append]
  split <;> split <;> (try split) <;> simp
/-- The text of a number of k + 1 figures with the exponent e. -/
def figTx (neg : Bool) (T k : Nat) (e : Int) (D : Nat) : List Nat := sgn neg ++ ptext T D k ++ [101] ++ expTx e
set_option maxRecDepth 100000 in
set_option maxHeartbeats 2000000 in
theorem spec_Figures (neg : Bool) (x : Value) (X n k : Nat) (ex : Int) (w : World) (hx : Sn w x X) (hX : X < 65536 ^ n) (hn : n ≤ 1000) (hk : k ≤ 100) (h1 : -1000 < ex) (h2 : ex < 1000) :
    Calls Tryz.prog 32 #[.bool neg, x, .int .i64 k, .int .i64 ex] w fun e w' => ∃ D, FigLen X D k ∧ D ≤ 5200 ∧ e = .returned (.string (txt (figTx neg X k ex D))) ∧ Chg No w w' := by
  have HMn := Lib.hid (minus_txt neg w)
  have HP := Lib.hid (spec_Pointed x X n k w hx hX hn hk)
  have HW : Hid (∀ W, Calls Tryz.prog 71 #[.int .i64 ex] W fun e w' => e = .returned (.string (txt (expTx ex))) ∧ Chg No W w') := Lib.hid fun W => spec_power ex W h1 h2
  obtain ⟨xA, xn, xc, rfl⟩ := hx.slc
  clear hx hX
  go_enter Tryz.func32, Tryz.ntmps32
  go_wp2_with fail
  refine HMn.out.mono ?_
  rintro e w1 ⟨rfl, rfl⟩
  go_wp2_with fail
  refine HP.out.mono ?_
  rintro e w2 ⟨D, hD, hD5, rfl, hc2⟩
  have HD := Lib.hid hD
  have HC2 := Lib.hid hc2
  have hpl := ptext_length X D k hD.2.1
  have hs1 : (txt (sgn neg)).size ≤ 1 := by rw [txt_size]; cases neg <;> simp [sgn]
  have hs2 : (txt (ptext X D k)).size ≤ 5201 := by rw [txt_size]; omega
  obtain ⟨b1, hb1⟩ : ∃ b1, b1 = txt (sgn neg) := ⟨_, rfl⟩
  obtain ⟨b2, hb2⟩ : ∃ b2, b2 = txt (ptext X D k) := ⟨_, rfl⟩
  rw [← hb1] at hs1 ⊢
  rw [← hb2] at hs2 ⊢
  have HB := Lib.hid (And.intro hb1 hb2)
  clear hD hc2 hb1 hb2 hpl
  go_wp2_with fail
  all_goals try (exfalso; rename_i hbig; simp [ByteArray.size_append] at hbig; omega)
  refine (HW.out _).mono ?_
  rintro e w3 ⟨rfl, hc3⟩
  have HC3 := Lib.hid (HC2.out.then hc3 (fun _ _ _ f => f))
  have hs3 : (txt (expTx ex)).size ≤ 6 := by rw [txt_size]; exact expTx_len ex
  obtain ⟨b3, hb3⟩ : ∃ b3, b3 = txt (expTx ex) := ⟨_, rfl⟩
  rw [← hb3] at hs3 ⊢
  have HB3 := Lib.hid hb3
  clear hc3 hb3
  go_wp2_with fail
  all_goals try (exfalso; rename_i hbig; simp [ByteArray.size_append] at hbig; omega)
  go_ret
  refine ⟨D, HD.out, hD5, ret_str ?_, HC3.out⟩
  rw [HB.out.1, HB.out.2, HB3.out, show ({ data := #[101] } : ByteArray) = txt [101] from rfl, txt_append, txt_append, txt_append]
  rfl
/-- k is the exponent of the power of 10 that is at most X / Y and more than a tenth of it. -/
def TensIs (X Y : Nat) (k : Int) : Prop := Y * 10 ^ k.toNat ≤ X * 10 ^ (-k).toNat ∧ X * 10 ^ (-k).toNat < Y * 10 ^ k.toNat * 10
set_option maxRecDepth 100000 in
set_option maxHeartbeats 2000000 in
theorem spec_Tens (x y : Value) (X Y n : Nat) (w : World) (hx : Sn w x X) (hy : Sn w y Y) (hX : X < 65536 ^ n) (hY : Y < 65536 ^ n) (hX0 : X ≠ 0) (hY0 : Y ≠ 0) (hn : n ≤ 150) :
    Calls Tryz.prog 64 #[x, y] w fun e w' => ∃ k : Int, e = .returned (.int .i64 k) ∧ TensIs X Y k ∧ -(5 * n : Nat) ≤ k ∧ k ≤ (5 * n : Nat) ∧ Chg No w w' := by
  have H1 := Lib.hid (spec_DivMod x y X Y n w hx hy hX hY hY0 (by omega))
  have HX := Lib.hid hx
  have HY := Lib.hid hy
  have HB := Lib.hid (And.intro hX (And.intro hY (And.intro hX0 hY0)))
  have hp := pow_65536_10 n
  have HP := Lib.hid hp
  obtain ⟨xA, xn, xc, rfl⟩ := hx.slc
  obtain ⟨yA, yn, yc, rfl⟩ := hy.slc
  clear hx hy hX hY hX0 hY0 hp
  go_enter Tryz.func64, Tryz.ntmps64
  go_wp2_with fail
  refine H1.out.mono ?_
  rintro e w1 ⟨q, r, rfl, hq, hr, hc1⟩
  have HC1 := Lib.hid hc1
  by_cases hq0 : X / Y = 0
  · obtain ⟨l, A, c, rfl, hcc, hrl, hv, hd, ht⟩ := hq.view
    have hl : l.length = 0 := by
      rcases Nat.eq_zero_or_pos l.length with h | h
      · exact h
      · have := Vb_ge ht h
        have := Nat.pow_pos (n := l.length - 1) (show 0 < 65536 by decide)
        omega
    have hlt : X < Y := by
      rcases Nat.lt_or_ge X Y with h | h
      · exact h
      · have := Nat.div_pos h (Nat.pos_of_ne_zero HB.out.2.2.2); omega
    have HLT := Lib.hid hlt
    rw [hl]
    clear hrl hd ht hq hr hv hl hq0 hlt hc1
    go_wp2_with fail
    go_loopw [0, 7] (fun nv kv wr => ∃ (j : Nat) (J : Int), kv = .int .i64 J ∧ Hid (J = -(j : Int)) ∧ -800 ≤ J ∧ J ≤ 0 ∧ j ≤ 5 * n ∧ Hid (Sn wr nv (X * 10 ^ j)) ∧ Hid (X * 10 ^ j < Y * 10) ∧ Hid (Chg No w wr)) (fun _ kv _ => (intOf kv + 5 * n + 1).toNat)
    case atStart => exact ⟨0, 0, rfl, Lib.hid rfl, by omega, by omega, by omega, Lib.hid (by rw [Nat.pow_zero, Nat.mul_one]; exact HX.out.chg HC1.out), Lib.hid (by have := HLT.out; omega), HC1⟩
    case round =>
      obtain ⟨j, J, rfl, hJ, hJ1, hJ2, hj, hS, hb, hC⟩ := hrel
      obtain ⟨nA, nn, nc, rfl⟩ := hS.out.slc
      have hYb : Y * 10 < 65536 ^ (n + 1) := by have := HB.out.2.1; rw [Nat.pow_succ]; omega
      have H3 := Lib.hid (spec_Cmp _ _ (X * 10 ^ j) Y (n + 1) wr hS.out (HY.out.chg hC.out) (Nat.lt_trans hb.out hYb) (by omega) (by omega))
      have HYb := Lib.hid hYb
      clear hYb
      by_cases hc : X * 10 ^ j < Y
      · rw [cmp3_lt hc] at H3
        have hj5 : j < 5 * n := by
          have h1 : 1 * 10 ^ j ≤ X * 10 ^ j := Nat.mul_le_mul_right _ (Nat.pos_of_ne_zero HB.out.2.2.1)
          have h2 := HB.out.2.1
          have h3 := HP.out
          have h4 : 10 ^ j < 10 ^ (5 * n) := by omega
          exact (Nat.pow_lt_pow_iff_right (by decide)).1 h4
        have HCC := Lib.hid hc
        clear hc
        go_wp2_with fail
        refine H3.out.mono ?_
        rintro e w4 ⟨rfl, hc4⟩
        have HC4 := Lib.hid (hC.out.then hc4 (fun _ _ _ f => f))
        have HS4 := Lib.hid (hS.out.chg hc4)
        have H4 := Lib.hid (spec_Small 10 w4 (by decide))
        clear hc4
        go_wp2_with fail
        refine H4.out.mono ?_
        rintro e w5 ⟨t, rfl, ht, hc5⟩
        have h10 : 10 < 65536 ^ (n + 1) := Nat.lt_of_lt_of_le (show 10 < 65536 ^ 1 by decide) (Nat.pow_le_pow_right (by decide) (by omega))
        have H5 := Lib.hid (spec_Mul _ t (X * 10 ^ j) 10 (n + 1) w5 (HS4.out.chg hc5) ht (Nat.lt_trans hb.out HYb.out) h10 (by omega))
        have HC5 := Lib.hid (HC4.out.then hc5 (fun _ _ _ f => f))
        clear ht hc5 h10
        go_wp2_with fail
        refine H5.out.mono ?_
        rintro e w6 ⟨m, rfl, hm, hc6⟩
        have HC6 := Lib.hid (HC5.out.then hc6 (fun _ _ _ f => f))
        have HM := Lib.hid hm
        clear hm hc6
        go_wp2_with fail
        go_roundw
        case rel => exact ⟨j + 1, J - 1, by go_num, Lib.hid (by have := hJ.out; omega), by have := hJ.out; omega, by omega, by omega, Lib.hid (by rw [Nat.pow_succ, ← Nat.mul_assoc]; exact HM.out), Lib.hid (by rw [Nat.pow_succ, ← Nat.mul_assoc]; have := HCC.out; omega), HC6⟩
        case measure => have := hJ.out; simp [intOf]; omega
      · obtain ⟨c2, hc2⟩ : ∃ c2, c2 = cmp3 (X * 10 ^ j) Y := ⟨_, rfl⟩
        have i3 : ¬ c2 < 0 := by
          rw [hc2]; unfold cmp3; rw [if_neg hc]; split <;> omega
        rw [← hc2] at H3
        have HCC := Lib.hid hc
        clear hc hc2
        go_wp2_with fail
        refine H3.out.mono ?_
        rintro e w4 ⟨rfl, hc4⟩
        have HC4 := Lib.hid (hC.out.then hc4 (fun _ _ _ f => f))
        clear hc4
        go_wp2_with fail
        go_ret
        have hJ' := hJ.out
        refine ⟨J, rfl, ?_, by omega, by omega, HC4.out⟩
        have e1 : J.toNat = 0 := by omega
        have e2 : (-J).toNat = j := by omega
        unfold TensIs
        rw [e1, e2]
        have h1 := HCC.out
        have h2 := hb.out
        simp
        omega
  · have HQ := Lib.hid hq
    have H2 := Lib.hid (spec_Digits q (X / Y) n w1 hq (Nat.lt_of_le_of_lt (Nat.div_le_self _ _) HB.out.1) (by omega))
    obtain ⟨Q, hQ⟩ : ∃ Q, Q = X / Y := ⟨_, rfl⟩
    have HQ1 : Hid (1 ≤ Q) := Lib.hid (by rw [hQ]; exact Nat.pos_of_ne_zero hq0)
    have HQQ := Lib.hid hQ
    clear hQ
    obtain ⟨l, A, c, rfl, hcc, hrl, hv, hd, ht⟩ := hq.view
    have hl : l.length ≠ 0 := by
      intro h
      have : l = [] := List.length_eq_zero_iff.1 h
      subst this
      exact hq0 (by rw [← hv]; rfl)
    obtain ⟨ln, hln⟩ : ∃ ln, ln = l.length := ⟨_, rfl⟩
    rw [← hln] at H2 hl ⊢
    have i1 : (0 : Int) < ln := by omega
    clear hrl hd ht hq hr hv hq0 HQ hln hc1 hcc hl
    go_wp2_with fail
    refine H2.out.mono ?_
    rintro e w2 ⟨D, hD, hD5, rfl, hc2⟩
    obtain ⟨b, hb⟩ : ∃ b, b = txt (asc (digs (X / Y) D)) := ⟨_, rfl⟩
    have hbs : b.size = D := by rw [hb, txt_size]; simp [asc, digs_length]
    rw [← hb]
    have HD := Lib.hid hD
    have HC2 := Lib.hid (HC1.out.then hc2 (fun _ _ _ f => f))
    have hD1 : 1 ≤ D := hD.2.1
    clear hb hD hc2
    go_wp2_with fail
    go_ret
    obtain ⟨d1, d2, d3⟩ := HD.out
    have hDn : D ≤ 5 * n := by
      rcases d3 with h | h
      · have h1 := HB.out.1
        have : 1 ≤ n := by
          rcases Nat.eq_zero_or_pos n with h0 | h0
          · subst h0; simp at h1; exact absurd h1 HB.out.2.2.1
          · exact h0
        omega
      · have h1 := HB.out.1
        have h3 := HP.out
        have h5 : X / Y ≤ X := Nat.div_le_self _ _
        have h4 : 10 ^ (D - 1) < 10 ^ (5 * n) := by omega
        have := (Nat.pow_lt_pow_iff_right (show 1 < 10 by decide)).1 h4
        omega
    refine ⟨(D : Int) - 1, ?_, ?_, by omega, by omega, HC2.out⟩
    · first | rfl | (rw [hbs]; rfl)
    · obtain ⟨D', rfl⟩ : ∃ D', D = D' + 1 := ⟨D - 1, by omega⟩
      have e1 : (((D' + 1 : Nat) : Int) - 1).toNat = D' := by omega
      have e2 : (-(((D' + 1 : Nat) : Int) - 1)).toNat = 0 := by omega
      unfold TensIs
      rw [e1, e2, Nat.pow_zero, Nat.mul_one]
      have h6 := Nat.mod_add_div X Y
      have h7 := Nat.mod_lt X (Nat.pos_of_ne_zero HB.out.2.2.2)
      have d3' : 10 ^ D' ≤ X / Y := by
        rcases d3 with h | h
        · have : D' = 0 := by omega
          subst this
          have := HQ1.out
          rw [HQQ.out] at this
          exact this
        · simpa using h
      rw [Nat.pow_succ] at d1
      have key : ∀ Q P R : Nat, P ≤ Q → Q < P * 10 → R + Y * Q = X → R < Y → Y * P ≤ X ∧ X < Y * P * 10 := by
        intro Q P R a1 a2 a3 a4
        constructor
        · have := Nat.mul_le_mul_left Y a1; omega
        · have h8 : Y * (Q + 1) ≤ Y * (P * 10) := Nat.mul_le_mul_left Y a2
          rw [Nat.mul_add, Nat.mul_one] at h8
          rw [Nat.mul_assoc]; omega
      exact key _ _ _ d3' d1 h6 h7
/-- The text that belongs to T, one of the nearest. -/
def SciTx (neg : Bool) (p T : Nat) (k : Int) (t : ByteArray) : Prop := if T = 10 ^ (p + 1) then ∃ D, FigLen (10 ^ p) D p ∧ t = txt (figTx neg (10 ^ p) p (k + 1) D) else ∃ D, FigLen T D p ∧ t = txt (figTx neg T p k D)
def SciPost (neg : Bool) (X Y p : Nat) (w : World) (e : Ending) (w' : World) : Prop :=
  ∃ v, ∃ ts : List ByteArray, ∃ k : Int, e = .returned v ∧ Sl w' v (ts.map Value.string) ∧ ts.length ≤ 2 ∧ TensIs X Y k ∧ (∀ T, Near (X * 10 ^ ((p : Int) - k).toNat) (Y * 10 ^ (k - (p : Int)).toNat) T → ∃ t ∈ ts, SciTx neg p T k t) ∧ Chg No w w'
def SciSt (neg : Bool) (p : Nat) (k : Int) (L : List (Value × Nat)) (w wr : World) (ov : Value) (i : Nat) : Prop :=
  ∃ ts : List ByteArray, Gr w wr ov (ts.map Value.string) ∧ ts.length = i ∧ ∀ q ∈ L.take i, ∃ t ∈ ts, SciTx neg p q.2 k t
theorem SciSt.chg {neg : Bool} {p i : Nat} {k : Int} {L : List (Value × Nat)} {w wr : World} {ov : Value} (h : SciSt neg p k L w wr ov i) : Chg No w wr := by
  obtain ⟨ts, h1, _⟩ := h
  exact h1.1
theorem cmp3_ne {x y : Nat} (h : x ≠ y) : cmp3 x y ≠ 0 := by
  unfold cmp3
  split
  · omega
  · rw [if_pos (by omega)]; omega
set_option maxRecDepth 100000 in
set_option maxHeartbeats 4000000 in
theorem spec_Scientific (neg : Bool) (x y : Value) (X Y n p : Nat) (w : World) (hx : Sn w x X) (hy : Sn w y Y) (hX : X < 65536 ^ n) (hY : Y < 65536 ^ n) (hX0 : X ≠ 0) (hY0 : Y ≠ 0) (hn : n ≤ 50) (hp : p ≤ 100) :
    Calls Tryz.prog 26 #[.bool neg, x, y, .int .i64 p] w (SciPost neg X Y p w) := by
  obtain ⟨ci, hi1, hi2, hi3, hi4⟩ := info_of info9
  have H1 := Lib.hid (spec_Tens x y X Y n w hx hy hX hY hX0 hY0 (by omega))
  have HX := Lib.hid hx
  have HY := Lib.hid hy
  have HB := Lib.hid (And.intro hX (And.intro hY (And.intro hX0 hY0)))
  obtain ⟨xA, xn, xc, rfl⟩ := hx.slc
  obtain ⟨yA, yn, yc, rfl⟩ := hy.slc
  clear hx hy hX hY hX0 hY0
  go_enter Tryz.func26, Tryz.ntmps26
  go_wp2_with fail
  refine H1.out.mono ?_
  rintro e w1 ⟨k, rfl, hk, hk1, hk2, hc1⟩
  have HK := Lib.hid hk
  have HC1 := Lib.hid hc1
  have hk3 : -250 ≤ k := by omega
  have hk4 : k ≤ 250 := by omega
  clear hk hc1 hk1 hk2
  go_upto_if 19 with fail
  go_cut [1, 2] (fun nv dv wx => Hid (Sn wx nv (X * 10 ^ ((p : Int) - k).toNat)) ∧ Hid (Sn wx dv (Y * 10 ^ (k - (p : Int)).toNat)) ∧ Hid (Chg No w wx))
  case first =>
    by_cases hkp : k ≤ p
    · obtain ⟨s, hs⟩ : ∃ s : Nat, (p : Int) - k = (s : Int) := ⟨((p : Int) - k).toNat, by omega⟩
      have j1 : decide (k ≤ (p : Int)) = true := decide_eq_true hkp
      have hs1 : s ≤ 400 := by omega
      have es : (p : Int) - k = (s : Int) := hs
      have H2 := Lib.hid (spec_Power 10 s w1 (by decide) (by decide) (by omega))
      have HS := Lib.hid hs
      clear hs
      go_wp2_with fail
      refine H2.out.mono ?_
      rintro e w2 ⟨pw, rfl, hpw, hc2⟩
      have hpb : 10 ^ s < 65536 ^ (s + 1) := Nat.lt_of_le_of_lt (Nat.pow_le_pow_left (by decide) s) (Nat.pow_lt_pow_right (by decide) (by omega))
      have H3 := Lib.hid (spec_Mul _ pw X (10 ^ s) (n + (s + 1)) w2 (HX.out.chg (HC1.out.then hc2 (fun _ _ _ f => f))) hpw (Nat.lt_of_lt_of_le HB.out.1 (Nat.pow_le_pow_right (by decide) (by omega))) (Nat.lt_of_lt_of_le hpb (Nat.pow_le_pow_right (by decide) (by omega))) (by omega))
      have HC2 := Lib.hid (HC1.out.then hc2 (fun _ _ _ f => f))
      clear hpw hc2 hpb
      go_wp2_with fail
      refine H3.out.mono ?_
      rintro e w3 ⟨m, rfl, hm, hc3⟩
      have HM := Lib.hid hm
      have HC3 := Lib.hid (HC2.out.then hc3 (fun _ _ _ f => f))
      clear hm hc3
      go_wp2_with fail
      go_meet
      have hs' := HS.out
      refine ⟨Lib.hid ?_, Lib.hid ?_, HC3⟩
      · rw [show ((p : Int) - k).toNat = s by omega]; exact HM.out
      · rw [show (k - (p : Int)).toNat = 0 by omega, Nat.pow_zero, Nat.mul_one]; exact HY.out.chg HC3.out
    · obtain ⟨s, hs⟩ : ∃ s : Nat, k - (p : Int) = (s : Int) := ⟨(k - (p : Int)).toNat, by omega⟩
      have j1 : decide (k ≤ (p : Int)) = false := decide_eq_false hkp
      have hs1 : s ≤ 400 := by omega
      have es : k - (p : Int) = (s : Int) := hs
      have H2 := Lib.hid (spec_Power 10 s w1 (by decide) (by decide) (by omega))
      have HS := Lib.hid hs
      clear hs
      go_wp2_with fail
      refine H2.out.mono ?_
      rintro e w2 ⟨pw, rfl, hpw, hc2⟩
      have hpb : 10 ^ s < 65536 ^ (s + 1) := Nat.lt_of_le_of_lt (Nat.pow_le_pow_left (by decide) s) (Nat.pow_lt_pow_right (by decide) (by omega))
      have H3 := Lib.hid (spec_Mul _ pw Y (10 ^ s) (n + (s + 1)) w2 (HY.out.chg (HC1.out.then hc2 (fun _ _ _ f => f))) hpw (Nat.lt_of_lt_of_le HB.out.2.1 (Nat.pow_le_pow_right (by decide) (by omega))) (Nat.lt_of_lt_of_le hpb (Nat.pow_le_pow_right (by decide) (by omega))) (by omega))
      have HC2 := Lib.hid (HC1.out.then hc2 (fun _ _ _ f => f))
      clear hpw hc2 hpb
      go_wp2_with fail
      refine H3.out.mono ?_
      rintro e w3 ⟨m, rfl, hm, hc3⟩
      have HM := Lib.hid hm
      have HC3 := Lib.hid (HC2.out.then hc3 (fun _ _ _ f => f))
      clear hm hc3
      go_wp2_with fail
      go_meet
      have hs' := HS.out
      refine ⟨Lib.hid ?_, Lib.hid ?_, HC3⟩
      · rw [show ((p : Int) - k).toNat = 0 by omega, Nat.pow_zero, Nat.mul_one]; exact HX.out.chg HC3.out
      · rw [show (k - (p : Int)).toNat = s by omega]; exact HM.out
  case rest =>
    obtain ⟨q1, q2, q3⟩ := hcut
    generalize wc = wa at *
    obtain ⟨nA, nn, nc, rfl⟩ := q1.out.slc
    obtain ⟨dA, dn, dc, rfl⟩ := q2.out.slc
    have G0 := Lib.hid (Gr.start (Chg.refl No wa) 9)
    have hb10 : ∀ (Z s : Nat), Z < 65536 ^ n → s ≤ 350 → Z * 10 ^ s < 65536 ^ (n + 351) := fun Z s hZ hs => by
      have h1 : 10 ^ s < 65536 ^ (s + 1) := Nat.lt_of_le_of_lt (Nat.pow_le_pow_left (by decide) s) (Nat.pow_lt_pow_right (by decide) (by omega))
      have h2 : 65536 ^ (n + (s + 1)) ≤ 65536 ^ (n + 351) := Nat.pow_le_pow_right (by decide) (by omega)
      rw [Nat.pow_add] at h2
      exact Nat.lt_of_lt_of_le (Nat.mul_lt_mul'' hZ h1) h2
    have hN := hb10 X ((p : Int) - k).toNat HB.out.1 (by omega)
    have hD := hb10 Y (k - (p : Int)).toNat HB.out.2.1 (by omega)
    have hD0 : Y * 10 ^ (k - (p : Int)).toNat ≠ 0 := Nat.mul_ne_zero HB.out.2.2.2 (Nat.ne_of_gt (Nat.pow_pos (by decide)))
    have k1 := (Chg.refl No wa).alloc (.cells #[] 9)
    have H5 := Lib.hid (spec_Nearest _ _ _ _ (n + 351) (wa.alloc (.cells #[] 9)) (q1.out.chg k1) (q2.out.chg k1) hN hD hD0 (by omega))
    have HK1 := Lib.hid (q3.out.then k1 (fun _ _ _ f => f))
    obtain ⟨N', hN'⟩ : ∃ N', N' = X * 10 ^ ((p : Int) - k).toNat := ⟨_, rfl⟩
    obtain ⟨D', hD'⟩ : ∃ D', D' = Y * 10 ^ (k - (p : Int)).toNat := ⟨_, rfl⟩
    rw [← hN', ← hD'] at H5
    have HND := Lib.hid (And.intro hN' (And.intro hD' (show N' < 65536 ^ (n + 351) by rw [hN']; exact hN)))
    clear hb10 hN hD hD0 k1 hN' hD' q1 q2
    go_wp2_with fail
    refine H5.out.mono ?_
    rintro e w3 ⟨v, L, rfl, hSl, hL, hT, hL2, hc3⟩
    obtain ⟨A, c, rfl, hle, hcell⟩ := hSl
    rw [List.length_map] at hle ⊢
    have HCell : Hid (∀ i (h : i < L.length), ∃ ad, A = some ad ∧ w3.cell? (ad.add i) = some (L[i]).1) := Lib.hid fun i hi => by
      obtain ⟨ad, e, hh⟩ := hcell i (by rw [List.length_map]; exact hi)
      exact ⟨ad, e, by rw [hh, List.getElem_map]⟩
    obtain ⟨m, em⟩ : ∃ m, m = L.length := ⟨_, rfl⟩
    rw [← em] at hle hL2 ⊢
    have HL := Lib.hid hL
    have HT := Lib.hid hT
    have HM := Lib.hid em
    have HC3 := Lib.hid (HK1.out.then hc3 (fun _ _ _ f => f))
    have HG3 := Lib.hid (G0.out.chg hc3).fresh
    have hS7 : Hid (∀ (ts : List ByteArray) (wq : World), True → True) := Lib.hid fun _ _ _ => trivial
    clear hcell hL hT em hc3 hS7
    go_wp2_with fail
    go_loopw [10, 37] (fun ov iv wr => ∃ i : Nat, iv = .int .i64 i ∧ i ≤ m ∧ Hid (SciSt neg p k L w3 wr ov i)) (fun _ iv _ => m - (intOf iv).toNat)
    case atStart => exact ⟨0, rfl, Nat.zero_le _, Lib.hid ⟨[], HG3.out, rfl, by simp⟩⟩
    case round =>
      obtain ⟨i, rfl, hi, hS⟩ := hrel
      have hC := Lib.hid hS.out.chg
      by_cases him : i < m
      · obtain ⟨ad, rfl, c1⟩ := HCell.out i (by rw [← HM.out]; exact him)
        have hpq := HL.out (L[i]'(by rw [← HM.out]; exact him)) (List.getElem_mem _)
        obtain ⟨qv, eqv⟩ : ∃ qv, qv = L[i]'(by rw [← HM.out]; exact him) := ⟨_, rfl⟩
        rw [← eqv] at c1 hpq
        have c1 := hC.out.cellA c1
        obtain ⟨qs, q⟩ := qv
        obtain ⟨hq1, hq2⟩ := hpq
        obtain ⟨qA, qn, qc, rfl⟩ := hq1.slc
        have i1 : (i : Int) < m := by omega
        have hqb : q < 65536 ^ (n + 351 + 1) := by
          have h1 := HND.out.2.2
          have h2 : q ≤ N' + 1 := hq2
          rw [Nat.pow_succ]; omega
        have hpb : 10 ^ (p + 1) < 65536 ^ (n + 351 + 1) := Nat.lt_of_le_of_lt (Nat.pow_le_pow_left (by decide) (p + 1)) (Nat.pow_lt_pow_right (by decide) (by omega))
        have HQ := Lib.hid (hq1.chg hC.out)
        have HE := Lib.hid eqv
        have HQb := Lib.hid hqb
        have HPb := Lib.hid hpb
        have HPw := Lib.hid (spec_Power 10 (p + 1) wr (by decide) (by decide) (by omega))
        have hS7 : Hid (∀ (ts : List ByteArray) (wq : World), Chg No wr wq → ∀ ov, Gr w3 wr ov (ts.map Value.string) → Gr w3 wq ov (ts.map Value.string)) := Lib.hid fun ts wq hq ov hg => hg.chg hq
        clear eqv hq1 hq2 hqb hpb
        rw [show ((p + 1 : Nat) : Int) = (p : Int) + 1 by omega] at HPw
        by_cases hEq : q = 10 ^ (p + 1)
        · have HEq := Lib.hid hEq
          clear hEq
          go_wp2_with fail
          refine HPw.out.mono ?_
          rintro e w4 ⟨pw, rfl, hpw, hc4⟩
          have HQ4 := Lib.hid (HQ.out.chg hc4)
          have HC4 := Lib.hid hc4
          have HCm := Lib.hid (spec_Cmp (.slice qA qn qc) pw q (10 ^ (p + 1)) (n + 351 + 1) w4 (HQ.out.chg hc4) hpw HQb.out HPb.out (by omega))
          clear hpw hc4
          rw [show cmp3 q (10 ^ (p + 1)) = 0 from cmp3_eq HEq.out] at HCm
          go_wp2_with fail
          refine HCm.out.mono ?_
          rintro e w5 ⟨rfl, hc5⟩
          have HQ5 := Lib.hid (HQ4.out.chg hc5)
          have HC5 := Lib.hid (HC4.out.then hc5 (fun _ _ _ f => f))
          clear hc5
          have HP2 := Lib.hid (spec_Power 10 p w5 (by decide) (by decide) (by omega))
          go_wp2_with fail
          refine HP2.out.mono ?_
          rintro e w6 ⟨pq, rfl, hpq, hc6⟩
          obtain ⟨pA, pn, pc, rfl⟩ := hpq.slc
          have HFg := Lib.hid (spec_Figures neg _ (10 ^ p) (p + 1) p (k + 1) w6 hpq (Nat.lt_of_le_of_lt (Nat.pow_le_pow_left (by decide) p) (Nat.pow_lt_pow_right (by decide) (by omega))) (by omega) hp (by omega) (by omega))
          have HC6 := Lib.hid (HC5.out.then hc6 (fun _ _ _ f => f))
          clear hpq hc6
          go_wp2_with fail
          refine HFg.out.mono ?_
          rintro e w7 ⟨D, hD, hD5, rfl, hc7⟩
          have HD := Lib.hid hD
          obtain ⟨ts, g1, g2, g3⟩ := hS.out
          have HC7 := Lib.hid (HC6.out.then hc7 (fun _ _ _ f => f))
          have HG7 := Lib.hid (hS7.out ts _ HC7.out _ g1)
          have HS7 := Lib.hid (And.intro g2 g3)
          have htl : ts.length ≤ 2 := by omega
          clear hD hc7 g1 g2 g3
          go_wp2_with (refine wpList_append_gr (w0 := w3) rfl (.tmp 52) (.tmp 58) 52 9 rfl ci _ Tryz.underlying52 hi1 hi2 rfl ⟨by simp, by simp⟩ hi3 (by rw [hi4]; omega) _ (ts.map Value.string) rfl HG7.out (.string (txt (figTx neg (10 ^ p) p (k + 1) D))) rfl 9 rfl (by rw [List.length_map]; omega) ?_; intro r w8 happ; have HA := Lib.hid happ; clear happ)
          go_roundw
          case rel =>
            refine ⟨i + 1, by go_num, by omega, Lib.hid ⟨ts ++ [txt (figTx neg (10 ^ p) p (k + 1) D)], ?_, by have := HS7.out.1; simp; omega, fun pp hpp => ?_⟩⟩
            · rw [List.map_append]; exact HA.out
            · rw [List.take_succ_eq_append_getElem (by rw [← HM.out]; exact him), ← HE.out] at hpp
              rcases List.mem_append.1 hpp with h | h
              · obtain ⟨t, h1, h2⟩ := HS7.out.2 pp h
                exact ⟨t, List.mem_append_left _ h1, h2⟩
              · simp at h; subst h
                refine ⟨_, List.mem_append_right _ (List.mem_singleton.2 rfl), ?_⟩
                unfold SciTx
                rw [if_pos HEq.out]
                exact ⟨D, HD.out, rfl⟩
          case measure => simp [intOf]; omega
        · have HEq := Lib.hid hEq
          clear hEq
          go_wp2_with fail
          refine HPw.out.mono ?_
          rintro e w4 ⟨pw, rfl, hpw, hc4⟩
          have HQ4 := Lib.hid (HQ.out.chg hc4)
          have HC4 := Lib.hid hc4
          have HCm := Lib.hid (spec_Cmp (.slice qA qn qc) pw q (10 ^ (p + 1)) (n + 351 + 1) w4 (HQ.out.chg hc4) hpw HQb.out HPb.out (by omega))
          clear hpw hc4
          obtain ⟨cc, hcc⟩ : ∃ cc, cc = cmp3 q (10 ^ (p + 1)) := ⟨_, rfl⟩
          rw [← hcc] at HCm
          have j4 : (cc == 0) = false := beq_eq_false_iff_ne.2 (by rw [hcc]; exact cmp3_ne HEq.out)
          clear hcc
          go_wp2_with fail
          refine HCm.out.mono ?_
          rintro e w5 ⟨rfl, hc5⟩
          have HQ5 := Lib.hid (HQ4.out.chg hc5)
          have HC5 := Lib.hid (HC4.out.then hc5 (fun _ _ _ f => f))
          clear hc5
          have HFg := Lib.hid (spec_Figures neg _ q (n + 351 + 1) p k w5 HQ5.out HQb.out (by omega) hp (by omega) (by omega))
          have HC6 := HC5
          go_wp2_with fail
          refine HFg.out.mono ?_
          rintro e w7 ⟨D, hD, hD5, rfl, hc7⟩
          have HD := Lib.hid hD
          obtain ⟨ts, g1, g2, g3⟩ := hS.out
          have HC7 := Lib.hid (HC6.out.then hc7 (fun _ _ _ f => f))
          have HG7 := Lib.hid (hS7.out ts _ HC7.out _ g1)
          have HS7 := Lib.hid (And.intro g2 g3)
          have htl : ts.length ≤ 2 := by omega
          clear hD hc7 g1 g2 g3
          go_wp2_with (refine wpList_append_gr (w0 := w3) rfl (.tmp 52) (.tmp 58) 52 9 rfl ci _ Tryz.underlying52 hi1 hi2 rfl ⟨by simp, by simp⟩ hi3 (by rw [hi4]; omega) _ (ts.map Value.string) rfl HG7.out (.string (txt (figTx neg q p k D))) rfl 9 rfl (by rw [List.length_map]; omega) ?_; intro r w8 happ; have HA := Lib.hid happ; clear happ)
          go_roundw
          case rel =>
            refine ⟨i + 1, by go_num, by omega, Lib.hid ⟨ts ++ [txt (figTx neg q p k D)], ?_, by have := HS7.out.1; simp; omega, fun pp hpp => ?_⟩⟩
            · rw [List.map_append]; exact HA.out
            · rw [List.take_succ_eq_append_getElem (by rw [← HM.out]; exact him), ← HE.out] at hpp
              rcases List.mem_append.1 hpp with h | h
              · obtain ⟨t, h1, h2⟩ := HS7.out.2 pp h
                exact ⟨t, List.mem_append_left _ h1, h2⟩
              · simp at h; subst h
                refine ⟨_, List.mem_append_right _ (List.mem_singleton.2 rfl), ?_⟩
                unfold SciTx
                rw [if_neg HEq.out]
                exact ⟨D, HD.out, rfl⟩
          case measure => simp [intOf]; omega
      · obtain rfl : i = m := by omega
        go_wp2_with fail
        go_ret
        obtain ⟨ts, g1, g2, g3⟩ := hS.out
        refine ⟨_, ts, k, rfl, g1.sl, by omega, HK.out, fun T hTn => ?_, HC3.out.then g1.1 (fun _ _ _ f => f)⟩
        obtain ⟨pq, hp1, hp2⟩ := HT.out T (by rw [HND.out.1, HND.out.2.1]; exact hTn)
        obtain ⟨t, h1, h2⟩ := g3 pq (by rw [HM.out, List.take_length]; exact hp1)
        rw [hp2] at h2
        exact ⟨t, h1, h2⟩
end Go.Proofs.YtacfhndledcmgaaGreatDoor
