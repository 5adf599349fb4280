/- Lemmas for the law FnBackDecimal: functions of the specification. Conditions: those in each theorem; none besides. -/
import Derived.Test.YtacfhndledcmgaaGreatDoorK10
import Derived.Deep.RegionHeld3
set_option linter.unusedVariables false
set_option linter.unusedSimpArgs false
namespace Go.Proofs.YtacfhndledcmgaaGreatDoor
open Go.RowKit
theorem Vb_take_succ (l : List Nat) (k : Nat) : Vb (l.take (k + 1)) = Vb (l.take k) + l.getD k 0 * 65536 ^ k := by
  by_cases h : k < l.length
  · rw [List.take_succ_eq_append_getElem h, Vb_snoc, gd_lt h, List.length_take, Nat.min_eq_left (by omega)]
  · rw [gd_ge (by omega), List.take_of_length_le (by omega), List.take_of_length_le (by omega)]; simp
theorem Vb_drop {l : List Nat} {i : Nat} (h : i < l.length) : Vb (l.drop i) = l.getD i 0 + 65536 * Vb (l.drop (i + 1)) := by
  rw [List.drop_eq_getElem_cons h, Vb, gd_lt h]
theorem Vb_split (l : List Nat) {i : Nat} (h : i ≤ l.length) : Vb l = Vb (l.take i) + 65536 ^ i * Vb (l.drop i) := by
  have := Vb_append (l.take i) (l.drop i)
  rw [List.take_append_drop, List.length_take, Nat.min_eq_left h] at this
  exact this
theorem dig_lt {l : List Nat} (h : ∀ d ∈ l, d < 65536) (i : Nat) : l.getD i 0 < 65536 := by
  by_cases hi : i < l.length
  · rw [gd_lt hi]; exact h _ (List.getElem_mem hi)
  · rw [gd_ge (by omega)]; decide
theorem take_lt {l : List Nat} (h : ∀ d ∈ l, d < 65536) {i : Nat} (hi : i ≤ l.length) : Vb (l.take i) < 65536 ^ i := by
  have := Vb_lt (l := l.take i) fun d hd => h d (List.mem_of_mem_take hd)
  rwa [List.length_take, Nat.min_eq_left hi] at this
/-- The four digits of a word. -/
def d16 (x : Nat) : List Nat := [x % 65536, x / 65536 % 65536, x / 4294967296 % 65536, x / 281474976710656 % 65536]
theorem Vb_d16 {x : Nat} (h : x < WB) : Vb (d16 x) = x := by
  unfold WB at h
  simp only [d16, Vb]; omega
theorem d16_lt (x : Nat) : ∀ d ∈ d16 x, d < 65536 := by
  intro d hd
  simp only [d16, List.mem_cons, List.not_mem_nil, or_false] at hd
  rcases hd with rfl | rfl | rfl | rfl <;> exact Nat.mod_lt _ (by decide)
theorem Vl_cons (x : Nat) (l : List Nat) : Vl (x :: l) = x + WB * Vl l := by
  unfold Vl
  rw [List.length_cons, Nat.add_comm l.length 1, V_split]
  simp only [V, Nat.pow_one, Nat.pow_zero, Nat.zero_add, Nat.mul_one, List.getD_cons_zero]
  congr 2
  exact V_congr _ fun i _ => by rw [Nat.add_comm 1 i]; simp
theorem WB_65536 : WB = 65536 ^ 4 := by decide
theorem Vb_words (l : List Nat) (h : ∀ x ∈ l, x < WB) : Vb (l.flatMap d16) = Vl l := by
  induction l with
  | nil => rfl
  | cons x l ih =>
    rw [List.flatMap_cons, Vb_append, Vl_cons, ih fun y hy => h y (by simp [hy]), Vb_d16 (h x (by simp)), WB_65536]
    rfl
theorem words_lt (l : List Nat) : ∀ d ∈ l.flatMap d16, d < 65536 := by
  intro d hd
  obtain ⟨x, _, hx⟩ := List.mem_flatMap.1 hd
  exact d16_lt x d hx
theorem words_len (l : List Nat) : (l.flatMap d16).length = 4 * l.length := by
  induction l with
  | nil => rfl
  | cons x l ih => rw [List.flatMap_cons, List.length_append, ih]; simp [d16]; omega
/-- Shorter is less. -/
theorem short_lt {la lb : List Nat} (ha : ∀ d ∈ la, d < 65536) (hb : Top lb) (h : la.length < lb.length) : Vb la < Vb lb := by
  have h1 := Vb_lt ha
  have h2 := Vb_ge hb (by omega)
  have h3 := Nat.pow_le_pow_right (n := 65536) (by decide) (show la.length ≤ lb.length - 1 by omega)
  omega
/-- The highest digit that differs decides. -/
theorem high_lt {la lb : List Nat} (ha : ∀ d ∈ la, d < 65536) {i : Nat} (hi : i < la.length) (hlen : la.length = lb.length) (he : Vb (la.drop (i + 1)) = Vb (lb.drop (i + 1))) (hd : la.getD i 0 < lb.getD i 0) : Vb la < Vb lb := by
  rw [Vb_split la (i := i) (by omega), Vb_split lb (i := i) (by omega), Vb_drop (l := la) (i := i) hi, Vb_drop (l := lb) (i := i) (hlen ▸ hi), he]
  have h1 := take_lt ha (i := i) (by omega)
  generalize 65536 ^ i = P at *
  generalize Vb (lb.drop (i + 1)) = r
  have h2 : P * (la.getD i 0 + 1 + 65536 * r) ≤ P * (lb.getD i 0 + 65536 * r) := Nat.mul_le_mul_left _ (by omega)
  have e : P * (la.getD i 0 + 1 + 65536 * r) = P * (la.getD i 0 + 65536 * r) + P := by grind
  omega
/-- -1, 0 or 1. -/
def cmp3 (x y : Nat) : Int := if x < y then -1 else if y < x then 1 else 0
theorem blen_half {t : Nat} (h : 0 < t) : blen t = blen (t / 2) + 1 := by
  have h0 : t ≠ 0 := by omega
  by_cases h2 : t / 2 = 0
  · have : t = 1 := by omega
    subst this; decide
  · have h3 : blen (t / 2) = Nat.log2 (t / 2) + 1 := by unfold blen; rw [if_neg h2]
    have a1 := Nat.log2_self_le h2
    have a2 := Nat.lt_log2_self (n := t / 2)
    rw [h3]
    apply blen_of
    · rw [Nat.pow_succ]; omega
    · rw [Nat.pow_succ]; omega
theorem blen_Vb {l : List Nat} {n t : Nat} (hl : l.length = n + 1) (hb : ∀ d ∈ l, d < 65536) (ht : t = l.getD n 0) (h0 : t ≠ 0) : blen (Vb l) = 16 * n + blen t := by
  have h1 := take_lt hb (i := n) (by omega)
  have e : Vb l = Vb (l.take n) + t * 65536 ^ n := by
    have := Vb_take_succ l n
    rw [← hl, List.take_length, ← ht] at this
    exact this
  have h3 : blen t = Nat.log2 t + 1 := by unfold blen; rw [if_neg h0]
  have a1 := Nat.log2_self_le h0
  have a2 := Nat.lt_log2_self (n := t)
  have e16 : 65536 ^ n = 2 ^ (16 * n) := by rw [show (65536 : Nat) = 2 ^ 16 by decide, ← Nat.pow_mul]
  rw [e, h3, ← Nat.add_assoc]
  rw [e16] at h1 ⊢
  apply blen_of
  · rw [Nat.pow_add, Nat.mul_comm (2 ^ (16 * n))]
    have := Nat.mul_le_mul_right (2 ^ (16 * n)) a1
    omega
  · rw [Nat.add_assoc, Nat.pow_add, Nat.mul_comm (2 ^ (16 * n))]
    have := Nat.mul_le_mul_right (2 ^ (16 * n)) (show t + 1 ≤ 2 ^ (t.log2 + 1) by omega)
    rw [Nat.add_mul] at this
    omega
theorem txt_size (l : List Nat) : (txt l).size = l.length := by simp [txt, ByteArray.size]
/-- A list of ints that one reads. -/
def Rl (w : World) (A : Option Addr) (l : List Nat) : Prop := ∀ i, i < l.length → ∃ ad, A = some ad ∧ w.cell? (ad.add i) = some (.int .i64 (l.getD i 0 : Nat))
theorem Rl.chg {w w' : World} {A : Option Addr} {l : List Nat} (h : Rl w A l) (hc : Chg No w w') : Rl w' A l := fun i hi => by
  obtain ⟨ad, e, hh⟩ := h i hi
  exact ⟨ad, e, hc.cellA hh⟩
theorem Sn.view {w : World} {v : Value} {X : Nat} (h : Sn w v X) : ∃ l A c, v = .slice A l.length c ∧ l.length ≤ c ∧ Rl w A l ∧ Vb l = X ∧ (∀ d ∈ l, d < 65536) ∧ Top l := by
  obtain ⟨l, ⟨A, c, e, hle, hr⟩, h2, h3, h4⟩ := h
  have el := ints_length l
  refine ⟨l, A, c, by rw [e, el], by rw [← el]; exact hle, fun i hi => ?_, h2, h3, h4⟩
  obtain ⟨ad, e1, e2⟩ := hr i (by rw [el]; exact hi)
  exact ⟨ad, e1, by rw [e2, ints_get]⟩
/-- A number that has been told; nothing old has changed. -/
def SnOut (X : Nat) (w : World) (e : Ending) (w' : World) : Prop := ∃ r, e = .returned r ∧ Sn w' r X ∧ Chg No w w'
theorem cmp3_gt {x y : Nat} (h : y < x) : cmp3 x y = 1 := by
  unfold cmp3; rw [if_neg (by omega), if_pos h]
theorem cmp3_lt {x y : Nat} (h : x < y) : cmp3 x y = -1 := by
  unfold cmp3; rw [if_pos h]
theorem cmp3_eq {x y : Nat} (h : x = y) : cmp3 x y = 0 := by
  unfold cmp3; rw [if_neg (by omega), if_neg (by omega)]
set_option maxRecDepth 100000 in
set_option maxHeartbeats 1000000 in
theorem spec_Cmp (x y : Value) (X Y n : Nat) (w : World) (hx : Sn w x X) (hy : Sn w y Y) (hX : X < 65536 ^ n) (hY : Y < 65536 ^ n) (hn : n ≤ 10000) :
    Calls Tryz.prog 29 #[x, y] w fun e w' => e = .returned (.int .i64 (cmp3 X Y)) ∧ Chg No w w' := by
  obtain ⟨la, A, ca, rfl, hca, hra, rfl, hda, hta⟩ := hx.view
  obtain ⟨lb, B, cb, rfl, hcb, hrb, rfl, hdb, htb⟩ := hy.view
  have hla := Sn_len hta hX
  have hlb := Sn_len htb hY
  clear hX hY hx hy
  obtain ⟨na, ena⟩ : ∃ na, na = la.length := ⟨_, rfl⟩
  obtain ⟨nb, enb⟩ : ∃ nb, nb = lb.length := ⟨_, rfl⟩
  rw [← ena] at hla hca ⊢
  rw [← enb] at hlb hcb ⊢
  rcases Nat.lt_trichotomy na nb with hl | hl | hl
  · have i1 : (na : Int) < nb := by omega
    have hc := Lib.hid (cmp3_lt (short_lt hda htb (by omega)))
    clear hl ena enb hra hrb
    go_enter Tryz.func29, Tryz.ntmps29
    go_wp2_with fail
    go_ret
    exact ⟨by rw [hc.out]; rfl, Chg.refl _ _⟩
  · subst hl
    have HN := Lib.hid (And.intro ena enb)
    have HA := Lib.hid hra
    have HB := Lib.hid hrb
    clear ena enb hra hrb hta htb
    go_enter Tryz.func29, Tryz.ntmps29
    go_wp2_with fail
    go_loopw [5] (fun iv wr => Hid (Chg No w wr) ∧ ∃ (j : Nat) (J : Int), j ≤ na ∧ iv = .int .i64 J ∧ Hid (J = (j : Int) - 1) ∧ Hid (Vb (la.drop j) = Vb (lb.drop j))) (fun iv _ => (intOf iv + 1).toNat)
    case atStart =>
      refine ⟨Lib.hid (Chg.refl _ _), na, (na : Int) - 1, Nat.le_refl _, by go_num, Lib.hid rfl, Lib.hid ?_⟩
      rw [List.drop_of_length_le (by have := HN.out; omega), List.drop_of_length_le (by have := HN.out; omega)]
    case round =>
      obtain ⟨hC, j, J, hj, rfl, hJ, hV⟩ := hrel
      rcases Nat.eq_zero_or_pos j with h0 | h0
      · obtain rfl : J = -1 := by have := hJ.out; omega
        have HF := Lib.hid (cmp3_eq (by have := hV.out; rw [h0] at this; simpa using this : Vb la = Vb lb))
        clear h0
        go_wp2_with fail
        go_ret
        exact ⟨by rw [HF.out]; rfl, hC.out⟩
      · obtain ⟨p, rfl⟩ : ∃ p, j = p + 1 := ⟨j - 1, by omega⟩
        obtain rfl : J = (p : Int) := by have := hJ.out; omega
        obtain ⟨ad, rfl, c1⟩ := (HA.out.chg hC.out) p (by have := HN.out; omega)
        obtain ⟨bd, rfl, c2⟩ := (HB.out.chg hC.out) p (by have := HN.out; omega)
        obtain ⟨u, hu⟩ : ∃ u, u = la.getD p 0 := ⟨_, rfl⟩
        obtain ⟨v, hv⟩ : ∃ v, v = lb.getD p 0 := ⟨_, rfl⟩
        rw [← hu] at c1
        rw [← hv] at c2
        have i1 : (p : Int) < na := by omega
        rcases Nat.lt_trichotomy u v with hl | hl | hl
        · have t1 : decide (u < v) = true := decide_eq_true hl
          have HF := Lib.hid (cmp3_lt (high_lt hda (i := p) (by have := HN.out; omega) (by have := HN.out; omega) hV.out (by omega)))
          clear hl hu hv h0
          go_wp2_with fail
          go_quiet (fail)
          go_wp2_with fail
          go_ret
          exact ⟨by rw [HF.out]; rfl, hC.out.drewN _⟩
        · subst hl
          have t1 : decide (u < u) = false := decide_eq_false (by omega)
          have HE := Lib.hid (And.intro hu hv)
          clear hu hv h0
          go_wp2_with fail
          go_quiet (fail)
          go_wp2_with fail
          go_quiet (fail)
          go_wp2_with fail
          go_roundw
          case rel =>
            refine ⟨Lib.hid (hC.out.drewN _), p, (p : Int) - 1, by omega, by go_num, Lib.hid rfl, Lib.hid ?_⟩
            rw [Vb_drop (by have := HN.out; omega), Vb_drop (l := lb) (by have := HN.out; omega), hV.out, ← HE.out.1, ← HE.out.2]
          case measure => simp [intOf]
        · have t1 : decide (u < v) = false := decide_eq_false (by omega)
          have t2 : decide (v < u) = true := decide_eq_true hl
          have HF := Lib.hid (cmp3_gt (high_lt hdb (i := p) (by have := HN.out; omega) (by have := HN.out; omega) hV.out.symm (by omega)))
          clear hl hu hv h0
          go_wp2_with fail
          go_quiet (fail)
          go_wp2_with fail
          go_quiet (fail)
          go_wp2_with fail
          go_ret
          exact ⟨by rw [HF.out]; rfl, (hC.out.drewN _).drewN _⟩
  · have i1 : ¬ (na : Int) < nb := by omega
    have i2 : (nb : Int) < na := by omega
    have hc := Lib.hid (cmp3_gt (short_lt hdb hta (by omega)))
    clear hl ena enb hra hrb
    go_enter Tryz.func29, Tryz.ntmps29
    go_wp2_with fail
    go_ret
    exact ⟨by rw [hc.out]; rfl, Chg.refl _ _⟩
set_option maxRecDepth 100000 in
set_option maxHeartbeats 1000000 in
theorem spec_Len (x : Value) (X n : Nat) (w : World) (hx : Sn w x X) (hX : X < 65536 ^ n) (hn : n ≤ 10000) :
    Calls Tryz.prog 56 #[x] w fun e w' => e = .returned (.int .i64 (blen X)) ∧ w = w' := by
  obtain ⟨la, A, ca, rfl, hca, hra, rfl, hda, hta⟩ := hx.view
  have hla := Sn_len hta hX
  clear hX hx
  obtain ⟨na, ena⟩ : ∃ na, na = la.length := ⟨_, rfl⟩
  rw [← ena] at hla hca ⊢
  rcases Nat.eq_zero_or_pos na with h0 | h0
  · subst h0
    have HF : blen (Vb la) = 0 := by
      have : la = [] := List.length_eq_zero_iff.1 ena.symm
      subst this; rfl
    have HF := Lib.hid HF
    clear ena hra hta
    go_enter Tryz.func56, Tryz.ntmps56
    go_wp2_with fail
    go_ret
    exact ⟨by rw [HF.out]; rfl, rfl⟩
  · obtain ⟨m, rfl⟩ : ∃ m, na = m + 1 := ⟨na - 1, by omega⟩
    obtain ⟨ad, rfl, c1⟩ := hra m (by omega)
    obtain ⟨t, ht⟩ : ∃ t, t = la.getD m 0 := ⟨_, rfl⟩
    have ht0 : t ≠ 0 := by
      rw [ht]
      have := hta.resolve_left (by omega)
      rwa [← ena, Nat.add_sub_cancel] at this
    have htl : t < 65536 := by rw [ht]; exact dig_lt hda m
    have HF := Lib.hid (blen_Vb ena.symm hda ht ht0)
    rw [← ht] at c1
    clear ena hra hta ht hda ht0
    have i1 : ((m + 1 : Nat) : Int) - 1 = (m : Int) := by omega
    have i2 : (m : Int) < ((m + 1 : Nat) : Int) := by omega
    have i3 : (((m + 1 : Nat) : Int) == 0) = false := beq_eq_false_iff_ne.2 (by omega)
    go_enter Tryz.func56, Tryz.ntmps56
    go_wp2_with fail
    go_loop [3, 4] (fun nv tv => ∃ u k : Nat, nv = .int .i64 ((16 * m + k : Nat) : Int) ∧ tv = .int .i64 u ∧ u ≤ t ∧ k + u ≤ t ∧ Hid (k + blen u = blen t)) (fun _ tv => (intOf tv).toNat)
    case atStart => exact ⟨t, 0, by go_num, rfl, Nat.le_refl _, by omega, Lib.hid (by omega)⟩
    case round =>
      obtain ⟨u, k, rfl, rfl, hu, hk, hV⟩ := hrel
      by_cases hu0 : u = 0
      · subst hu0
        go_wp2_with fail
        go_ret
        refine ⟨?_, rfl⟩
        rw [HF.out, ← hV.out]; simp [blen]
      · have i4 : (0 : Int) < u := by omega
        have HH := Lib.hid (blen_half (t := u) (by omega))
        obtain ⟨q, hq⟩ : ∃ q, q = u / 2 := ⟨_, rfl⟩
        have e1 : (u : Int) / 2 = (q : Int) := by omega
        have hq2 : q < u := by omega
        have HQ := Lib.hid hq
        clear hq
        go_wp2_with fail
        go_round
        case rel => exact ⟨q, k + 1, by go_num, rfl, by omega, by omega, Lib.hid (by have h1 := HH.out; have h2 := hV.out; rw [← HQ.out] at h1; omega)⟩
        case measure => simp [intOf]; omega
theorem and16 {y : Nat} (h : y < WB) : bits BinOp.and .u64 (y : Int) 65535 = ((y % 65536 : Nat) : Int) := by
  rw [show (65535 : Int) = ((65535 : Nat) : Int) from rfl, bits_and_u64_nat y 65535 h (by decide), show (65535 : Nat) = 2 ^ 16 - 1 by decide, Nat.and_two_pow_sub_one_eq_mod]
theorem d16_get (x k : Nat) (hk : k < 4) : (d16 x).getD k 0 = x / 2 ^ (16 * k) % 65536 := by
  rcases k with _ | _ | _ | _ | k
  · simp [d16]
  · simp [d16]
  · simp [d16]
  · simp [d16]
  · omega
theorem take_snoc (l : List Nat) {k : Nat} (h : k < l.length) : l.take (k + 1) = l.take k ++ [l.getD k 0] := by
  rw [List.take_succ_eq_append_getElem h, gd_lt h]
theorem flat_snoc (l : List Nat) {i : Nat} (h : i < l.length) : (l.take (i + 1)).flatMap d16 = (l.take i).flatMap d16 ++ d16 (l.getD i 0) := by
  rw [take_snoc l h, List.flatMap_append]; simp
set_option maxRecDepth 100000 in
set_option maxHeartbeats 1000000 in
theorem spec_trimS (A : Option Addr) (c : Nat) (l : List Nat) (w : World) (h : Sl w (.slice A l.length c) (ints l)) (hb : ∀ d ∈ l, d < 65536) (hl : l.length < 1048576) :
    Calls Tryz.prog 67 #[.slice A l.length c] w fun e w' => ∃ k, e = .returned (.slice A k c) ∧ k ≤ l.length ∧ Sn w (.slice A k c) (Vb l) ∧ w = w' := by
  obtain ⟨A2, c2, e2, hle, hcell⟩ := h
  rw [ints_length] at hle
  obtain ⟨rfl, -, rfl⟩ : A = A2 ∧ True ∧ c = c2 := by simp at e2; exact ⟨e2.1, trivial, e2.2.2⟩
  have hcell' : ∀ i, i < l.length → ∃ ad, A = some ad ∧ w.cell? (ad.add i) = some (.int .i64 (l.getD i 0 : Nat)) := fun i hi => by
    obtain ⟨ad, e, hh⟩ := hcell i (by rw [ints_length]; exact hi)
    exact ⟨ad, e, by rw [hh, ints_get]⟩
  obtain ⟨n, hn⟩ : ∃ n, n = l.length := ⟨_, rfl⟩
  have HT := Lib.hid fun k (hk : TrimAt l k) => (show Sn w (.slice A k c) (Vb l) from
    ⟨l.take k, by have := Sl.take (k := k) hcell (by rw [ints_length]; exact hk.1) (by rw [ints_length]; exact hle); unfold ints at *; rwa [← List.map_take] at this, Vb_cut hk, fun d hd => hb d (List.mem_of_mem_take hd), Top_cut hk⟩)
  rw [← hn] at hle hl hcell' ⊢
  have HN := Lib.hid hn
  clear hcell hb hn
  go_enter Tryz.func67, Tryz.ntmps67
  go_wp2_with fail
  go_loop [0] (fun v => ∃ k : Nat, k ≤ n ∧ v = .slice A k c ∧ Hid (∀ j, k ≤ j → l.getD j 0 = 0)) (fun v => match v with | .slice _ k _ => k | _ => 0)
  case atStart => exact ⟨n, by omega, rfl, Lib.hid (fun j hj => gd_ge (by rw [← HN.out]; exact hj))⟩
  case round =>
    obtain ⟨k, hk, rfl, hZ⟩ := hrel
    by_cases hk0 : k = 0
    · subst hk0
      go_wp2_with fail
      go_ret
      exact ⟨0, rfl, by omega, HT.out 0 ⟨by omega, hZ.out, .inl rfl⟩, rfl⟩
    · obtain ⟨p, rfl⟩ : ∃ p, k = p + 1 := ⟨k - 1, by omega⟩
      have i1 : (0 : Int) < ((p + 1 : Nat) : Int) := by omega
      have i2 : wrap64 (((p + 1 : Nat) : Int) - 1) = (p : Int) := by unfold wrap64; omega
      have i3 : (p : Int) < ((p + 1 : Nat) : Int) := by omega
      have i5 : (p : Int) ≤ c := by omega
      obtain ⟨ad, rfl, hc⟩ := hcell' p (by omega)
      obtain ⟨y, hy⟩ : ∃ y, y = l.getD p 0 := ⟨_, rfl⟩
      rw [← hy] at hc
      by_cases hd : l.getD p 0 = 0
      · have hy0 : y = 0 := by rw [hy, hd]
        subst hy0
        have HD := Lib.hid hd
        clear hd hy
        go_wp2_with fail
        go_round
        case rel =>
          refine ⟨p, by omega, rfl, Lib.hid (fun j h1 => ?_)⟩
          by_cases e : j = p
          · rw [e]; exact HD.out
          · exact hZ.out j (by omega)
        case measure => simp
      · have t1 : ((y : Int) == 0) = false := beq_eq_false_iff_ne.2 (by omega)
        have HD := Lib.hid hd
        clear hd hy
        go_wp2_with fail
        go_ret
        exact ⟨p + 1, rfl, hk, HT.out (p + 1) ⟨by rw [← HN.out]; exact hk, hZ.out, .inr HD.out⟩, rfl⟩
/-- A slice that is new, or empty. -/
def NewSl (w : World) (r : Value) : Prop := ∀ ad k c, r = .slice (some ad) k c → k = 0 ∨ w.heap.size ≤ ad.block
def SnNew (X : Nat) (w : World) (e : Ending) (w' : World) : Prop := ∃ r, e = .returned r ∧ Sn w' r X ∧ NewSl w r ∧ Chg No w w'
set_option maxRecDepth 100000 in
set_option maxHeartbeats 2000000 in
theorem spec_OfN (A : Option Addr) (c : Nat) (l : List Nat) (w : World) (hr : RdU w A l) (hl : l.length ≤ 1000) (hm : ∀ x ∈ l, x < WB) (hc : l.length ≤ c) :
    Calls Tryz.prog 28 #[.slice A l.length c] w (SnNew (Vl l) w) := by
  obtain ⟨ci, hi1, hi2, hi3, hi4⟩ := info_of info3
  have G0 := Lib.hid (Gr.start (Chg.refl No w) 3)
  obtain ⟨n, hn⟩ : ∃ n, n = l.length := ⟨_, rfl⟩
  rw [← hn] at hl hc ⊢
  have HN := Lib.hid hn
  have HR := Lib.hid hr
  clear hn hr
  go_enter Tryz.func28, Tryz.ntmps28
  go_wp2_with fail
  go_loopw [3, 10] (fun ov iv wr => ∃ i : Nat, iv = .int .i64 i ∧ i ≤ n ∧ Hid (Gr w wr ov (ints ((l.take i).flatMap d16)))) (fun _ iv _ => n - (intOf iv).toNat)
  case atStart => exact ⟨0, rfl, by omega, G0⟩
  case round =>
    obtain ⟨i, rfl, hi, hG⟩ := hrel
    by_cases hin : i < n
    · obtain ⟨ad, rfl, c1⟩ := (HR.out.chg hG.out.1) i (by have := HN.out; omega)
      obtain ⟨x, hx⟩ : ∃ x, x = l.getD i 0 := ⟨_, rfl⟩
      have hxW : x < WB := by rw [hx, gd_lt (by have := HN.out; omega)]; exact hm _ (List.getElem_mem _)
      rw [← gd_lt (by have := HN.out; omega), ← hx] at c1
      have i1 : (i : Int) < n := by omega
      have HX := Lib.hid hx
      have HW := Lib.hid hxW
      clear hx hxW
      go_wp2_with fail
      go_loopw [3, 6] (fun ov kv wr => ∃ k : Nat, kv = .int .i64 k ∧ k ≤ 4 ∧ Hid (Gr w wr ov (ints ((l.take i).flatMap d16 ++ (d16 x).take k)))) (fun _ kv _ => 4 - (intOf kv).toNat)
      case atStart => exact ⟨0, rfl, by omega, by simpa using hG⟩
      case round =>
        obtain ⟨k, rfl, hk, hK⟩ := hrel
        have hlen : ((l.take i).flatMap d16 ++ (d16 x).take k).length ≤ 4004 := by
          rw [List.length_append, words_len, List.length_take, List.length_take]
          simp [d16]; omega
        by_cases hk4 : k = 4
        · subst hk4
          go_wp2_with fail
          go_roundw
          case rel => exact ⟨i + 1, by go_num, by omega, Lib.hid (by rw [flat_snoc l (by have := HN.out; omega), ← HX.out]; have := hK.out; rwa [show (d16 x).take 4 = d16 x from rfl] at this)⟩
          case measure => simp [intOf]; omega
        obtain ⟨d, hd⟩ : ∃ d, d = (d16 x).getD k 0 := ⟨_, rfl⟩
        have hd16 : d < 65536 := by rw [hd]; exact dig_lt (d16_lt x) k
        have HD := Lib.hid hd
        clear hd
        obtain rfl | rfl | rfl | rfl : k = 0 ∨ k = 1 ∨ k = 2 ∨ k = 3 := by omega
        · have ek : bits BinOp.and .u64 ((x : Int)) 65535 = (d : Int) := by
            have h := and16 (y := x) (Nat.lt_of_le_of_lt (Nat.le_refl _) HW.out)
            rw [HD.out, d16_get x 0 (by decide)]
            simpa using h
          go_wp2_with (refine wpList_append_gr (w0 := w) rfl (.tmp 18) (.tmp 25) 29 3 rfl ci _ Tryz.underlying29 hi1 hi2 rfl (noWB_int 0) hi3 (by rw [hi4]; omega) _ (ints ((l.take i).flatMap d16 ++ (d16 x).take 0)) rfl hK.out (.int .i64 d) rfl 3 rfl (by rw [ints_length]; omega) ?_; intro r w2 happ; have HP := Lib.hid happ; clear happ)
          go_roundw
          case rel => exact ⟨1, by go_num, by omega, Lib.hid (by rw [take_snoc (d16 x) (by simp [d16]), ← List.append_assoc, ← ints_snoc, ← HD.out]; exact HP.out)⟩
          case measure => simp [intOf]
        · have ek : bits BinOp.and .u64 ((x : Int) / 65536) 65535 = (d : Int) := by
            have h := and16 (y := x / 65536) (Nat.lt_of_le_of_lt (Nat.div_le_self _ _) HW.out)
            rw [HD.out, d16_get x 1 (by decide)]
            simpa using h
          go_wp2_with (refine wpList_append_gr (w0 := w) rfl (.tmp 18) (.tmp 25) 29 3 rfl ci _ Tryz.underlying29 hi1 hi2 rfl (noWB_int 0) hi3 (by rw [hi4]; omega) _ (ints ((l.take i).flatMap d16 ++ (d16 x).take 1)) rfl hK.out (.int .i64 d) rfl 3 rfl (by rw [ints_length]; omega) ?_; intro r w2 happ; have HP := Lib.hid happ; clear happ)
          go_roundw
          case rel => exact ⟨2, by go_num, by omega, Lib.hid (by rw [take_snoc (d16 x) (by simp [d16]), ← List.append_assoc, ← ints_snoc, ← HD.out]; exact HP.out)⟩
          case measure => simp [intOf]
        · have ek : bits BinOp.and .u64 ((x : Int) / 4294967296) 65535 = (d : Int) := by
            have h := and16 (y := x / 4294967296) (Nat.lt_of_le_of_lt (Nat.div_le_self _ _) HW.out)
            rw [HD.out, d16_get x 2 (by decide)]
            simpa using h
          go_wp2_with (refine wpList_append_gr (w0 := w) rfl (.tmp 18) (.tmp 25) 29 3 rfl ci _ Tryz.underlying29 hi1 hi2 rfl (noWB_int 0) hi3 (by rw [hi4]; omega) _ (ints ((l.take i).flatMap d16 ++ (d16 x).take 2)) rfl hK.out (.int .i64 d) rfl 3 rfl (by rw [ints_length]; omega) ?_; intro r w2 happ; have HP := Lib.hid happ; clear happ)
          go_roundw
          case rel => exact ⟨3, by go_num, by omega, Lib.hid (by rw [take_snoc (d16 x) (by simp [d16]), ← List.append_assoc, ← ints_snoc, ← HD.out]; exact HP.out)⟩
          case measure => simp [intOf]
        · have ek : bits BinOp.and .u64 ((x : Int) / 281474976710656) 65535 = (d : Int) := by
            have h := and16 (y := x / 281474976710656) (Nat.lt_of_le_of_lt (Nat.div_le_self _ _) HW.out)
            rw [HD.out, d16_get x 3 (by decide)]
            simpa using h
          go_wp2_with (refine wpList_append_gr (w0 := w) rfl (.tmp 18) (.tmp 25) 29 3 rfl ci _ Tryz.underlying29 hi1 hi2 rfl (noWB_int 0) hi3 (by rw [hi4]; omega) _ (ints ((l.take i).flatMap d16 ++ (d16 x).take 3)) rfl hK.out (.int .i64 d) rfl 3 rfl (by rw [ints_length]; omega) ?_; intro r w2 happ; have HP := Lib.hid happ; clear happ)
          go_roundw
          case rel => exact ⟨4, by go_num, by omega, Lib.hid (by rw [take_snoc (d16 x) (by simp [d16]), ← List.append_assoc, ← ints_snoc, ← HD.out]; exact HP.out)⟩
          case measure => simp [intOf]
    · obtain rfl : i = n := by omega
      obtain ⟨fl, hfl⟩ : ∃ fl, fl = (l.take i).flatMap d16 := ⟨_, rfl⟩
      rw [← hfl] at hG
      have hfd : ∀ e ∈ fl, e < 65536 := fun e he => words_lt (l.take i) e (by rw [← hfl]; exact he)
      have hfn : fl.length ≤ 4000 := by rw [hfl, words_len, List.length_take]; omega
      have hfv : Vb fl = Vl l := by
        rw [hfl, Vb_words _ (fun y hy => hm y (List.mem_of_mem_take hy)), HN.out, List.take_length]
      obtain ⟨g1, gb, gc, ge, g2, g3, g4, g5, g6, g7⟩ := hG.out
      have hsl := hG.out.sl
      rw [ge] at hsl
      rw [ints_length] at hsl
      have HT := spec_trimS _ gc fl wr hsl hfd (by omega)
      rw [ints_length] at ge g2
      obtain ⟨nn, hnn⟩ : ∃ nn, nn = fl.length := ⟨_, rfl⟩
      rw [← hnn] at ge g2 HT hfn
      have HT := Lib.hid HT
      have HG := Lib.hid (And.intro g1 (And.intro g2 g4))
      have HV := Lib.hid hfv
      subst ge
      clear hsl g1 g2 g3 g4 g5 g6 g7 hG hfd hfv hfl hnn
      go_wp2_with fail
      refine HT.out.mono ?_
      rintro e w3 ⟨kk, rfl, hkk, hr2, rfl⟩
      have HR := Lib.hid (And.intro hkk hr2)
      clear hr2 hkk
      go_wp2_with fail
      go_ret
      refine ⟨_, rfl, ?_, ?_, HG.out.1⟩
      · have h := HR.out.2
        rw [HV.out] at h
        exact h
      · intro ad k c2 e
        have e : Value.slice (some ⟨gb, 0, none⟩) kk gc = .slice (some ad) k c2 := e
        simp at e
        obtain ⟨rfl, rfl, rfl⟩ := e
        rcases HG.out.2.2 with h | h
        · exact .inr h
        · have h1 := HG.out.2.1; have h2 := HR.out.1
          exact .inl (by omega)
theorem spec_Of (A : Option Addr) (c : Nat) (l : List Nat) (w : World) (hr : RdU w A l) (hl : l.length ≤ 1000) (hm : ∀ x ∈ l, x < WB) (hc : l.length ≤ c) :
    Calls Tryz.prog 28 #[.slice A l.length c] w (SnOut (Vl l) w) :=
  (spec_OfN A c l w hr hl hm hc).mono fun _ _ ⟨r, h1, h2, _, h3⟩ => ⟨r, h1, h2, h3⟩
set_option maxRecDepth 100000 in
set_option maxHeartbeats 1000000 in
theorem zzFits1 (P : Nat) (M F : Int) (n : Bool) (A : Option Addr) (k c : Nat) (E : Int) (w : World) (hk : k ≤ 2147483647) :
    Calls Tryz.prog 18 #[.agg #[.int .u64 P, .int .i64 M, .int .i64 F, .bool n, .slice A k c, .int .i64 E]] w fun e w' => e = .returned (.bool true) ∧ Chg No w w' := by
  have d1 : decide (2147483647 < (k : Int)) = false := decide_eq_false (by omega)
  have d2 : decide (2147483647 < k) = false := decide_eq_false (by omega)
  clear hk
  go_enter Tryz.func18, Tryz.ntmps18
  go_wp2_with fail
  go_ret
  exact ⟨rfl, (Chg.refl No w).alloc _⟩
/-- Cells of a block that one writes; no word or byte. -/
theorem three_new (w : World) (b : Nat) (u0 u1 u2 v0 v1 v2 : Value) (h0 : w.cell? ⟨b, 0, none⟩ = some u0) (h1 : w.cell? ⟨b, 1, none⟩ = some u1) (h2 : w.cell? ⟨b, 2, none⟩ = some u2) (a0 : ∀ n, u0 ≠ .int .u64 n) (a1 : ∀ n, u1 ≠ .int .u64 n) (a2 : ∀ n, u2 ≠ .int .u64 n) (b0 : ∀ n, u0 ≠ .int .u8 n) (b1 : ∀ n, u1 ≠ .int .u8 n) (b2 : ∀ n, u2 ≠ .int .u8 n) :
    Chg (fun x _ => x = b) w (((w.setCell ⟨b, 0, none⟩ v0).setCell ⟨b, 1, none⟩ v1).setCell ⟨b, 2, none⟩ v2) := by
  have k0 := (Chg.refl (fun x _ => x = b) w).setO v0 h0 a0 b0 (fun _ => rfl)
  have k1 := k0.setO (u := u1) v1 ((cell_setCell_ne _ _ _ _ _ _ (.inr (by decide))).trans h1) a1 b1 (fun _ => rfl)
  exact k1.setO (u := u2) v2 ((cell_setCell_ne _ _ _ _ _ _ (.inr (by decide))).trans ((cell_setCell_ne _ _ _ _ _ _ (.inr (by decide))).trans h2)) a2 b2 (fun _ => rfl)
theorem Sl.chgB {S : Nat → Nat → Prop} {w w' : World} {v : Value} {vs : List Value} (h : Sl w v vs) (hc : Chg S w w') (hd : ∀ (ad : Addr) (n c : Nat), v = .slice (some ad) n c → n = 0 ∨ ∀ o, ¬ S ad.block o) : Sl w' v vs := by
  obtain ⟨A, c, e, hle, h⟩ := h
  refine ⟨A, c, e, hle, fun i hi => ?_⟩
  obtain ⟨ad, e2, hh⟩ := h i hi
  refine ⟨ad, e2, ?_⟩
  have hb : (ad.add i).block = ad.block := by unfold Addr.add; split <;> rfl
  have hlt := World.block_lt_of_cell? _ _ hh
  have hd' : ∀ o, ¬ S ad.block o := (hd ad _ c (by rw [e, e2])).resolve_left (by omega)
  exact (cell_of_block (hc.block _ hlt (fun o f => hd' o (hb ▸ f)))).trans hh
theorem load47 (W : World) (b : Nat) (v0 v1 v2 : Value) (c0 : W.cell? ⟨b, 0, none⟩ = some v0) (c1 : W.cell? ⟨b, 1, none⟩ = some v1) (c2 : W.cell? ⟨b, 2, none⟩ = some v2) : (loadVar 47 ⟨b, 0, none⟩).run Tryz.prog W = .ok (.agg #[v0, v1, v2]) W := by
  have h1 := Tryz.isAgg47
  have h2 := Tryz.sizeOf47
  go_simp
set_option maxRecDepth 100000 in
set_option maxHeartbeats 1000000 in
theorem spec_OfReal (P : Nat) (M : Int) (n : Bool) (A : Option Addr) (c : Nat) (l : List Nat) (E : Int) (w : World) (hr : RdU w A l) (hl : l.length ≤ 1000) (hm : ∀ x ∈ l, x < WB) (hc : l.length ≤ c) :
    Calls Tryz.prog 20 #[.agg #[.int .u64 P, .int .i64 M, .int .i64 1, .bool n, .slice A l.length c, .int .i64 E]] w fun e w' => ∃ r, e = .returned (.agg #[.bool n, r, .int .i64 E]) ∧ Sn w' r (Vl l) ∧ Chg No w w' := by
  have HW : Hid (∀ W, W = (w.alloc (.cells #[.int .u64 P, .int .i64 M, .int .i64 1, .bool n, .slice A l.length c, .int .i64 E] 43)).alloc (.cells #[.bool false, .slice none 0 0, .int .i64 0] 47) →
      (∀ j, Calls Tryz.prog 28 #[.slice A l.length c] (W.drewN j) (SnNew (Vl l) (W.drewN j))) ∧ Chg No w W ∧ W.heap.size = w.heap.size + 2 ∧
      W.cell? ⟨w.heap.size, 3, none⟩ = some (.bool n) ∧ W.cell? ⟨w.heap.size, 4, none⟩ = some (.slice A l.length c) ∧ W.cell? ⟨w.heap.size, 5, none⟩ = some (.int .i64 E) ∧
      W.cell? ⟨w.heap.size + 1, 0, none⟩ = some (.bool false) ∧ W.cell? ⟨w.heap.size + 1, 1, none⟩ = some (.slice none 0 0) ∧ W.cell? ⟨w.heap.size + 1, 2, none⟩ = some (.int .i64 0) ∧ Plain W (w.heap.size + 1)) := by
    apply Lib.hid
    rintro W rfl
    have k1 := (Chg.refl No w).alloc (.cells #[.int .u64 P, .int .i64 M, .int .i64 1, .bool n, .slice A l.length c, .int .i64 E] 43)
    have k2 := k1.alloc (.cells #[.bool false, .slice none 0 0, .int .i64 0] 47)
    have hs : (w.alloc (.cells #[.int .u64 P, .int .i64 M, .int .i64 1, .bool n, .slice A l.length c, .int .i64 E] 43)).heap.size = w.heap.size + 1 := by simp
    have old : ∀ o, ((w.alloc (.cells #[.int .u64 P, .int .i64 M, .int .i64 1, .bool n, .slice A l.length c, .int .i64 E] 43)).alloc (.cells #[.bool false, .slice none 0 0, .int .i64 0] 47)).cell? ⟨w.heap.size, o, none⟩ = (w.alloc (.cells #[.int .u64 P, .int .i64 M, .int .i64 1, .bool n, .slice A l.length c, .int .i64 E] 43)).cell? ⟨w.heap.size, o, none⟩ := fun o => World.cell?_alloc_lt _ _ _ (by rw [hs]; show w.heap.size < _; omega)
    have new := fun o => World.cell?_alloc_new (w.alloc (.cells #[.int .u64 P, .int .i64 M, .int .i64 1, .bool n, .slice A l.length c, .int .i64 E] 43)) #[.bool false, .slice none 0 0, .int .i64 0] 47 o
    rw [hs] at new
    refine ⟨fun j => spec_OfN A c l _ (hr.chg (k2.drewN j)) hl hm hc, k2, by simp, (old 3).trans (World.cell?_alloc_new _ _ _ _), (old 4).trans (World.cell?_alloc_new _ _ _ _), (old 5).trans (World.cell?_alloc_new _ _ _ _), new 0, new 1, new 2, ?_⟩
    have := Plain.new (w.alloc (.cells #[.int .u64 P, .int .i64 M, .int .i64 1, .bool n, .slice A l.length c, .int .i64 E] 43)) #[.bool false, .slice none 0 0, .int .i64 0] 47
    rwa [hs] at this
  clear hr hm
  go_enter Tryz.func20, Tryz.ntmps20
  go_wp2_with fail
  generalize hWe : (w.alloc (.cells #[.int .u64 P, .int .i64 M, .int .i64 1, .bool n, .slice A l.length c, .int .i64 E] 43)).alloc (.cells #[.bool false, .slice none 0 0, .int .i64 0] 47) = W
  obtain ⟨H1, HC, hsz, c3, c4, c5, r0, r1, r2, hpl⟩ := HW.out W hWe.symm
  have H1 := Lib.hid H1
  have HC := Lib.hid HC
  have f0 := hpl.free 0
  have f1 := hpl.free 1
  have f2 := hpl.free 2
  have HP := Lib.hid hpl
  clear HW hWe hpl
  go_region_with (first
    | (go_at_call 28; refine (H1.out _).mono ?_; rintro e w2 ⟨r, rfl, hr2, hnew, hk2⟩; have HR := Lib.hid hr2; have HNW := Lib.hid hnew; have HK := Lib.hid hk2; obtain ⟨rA, rn, rc, rfl⟩ : ∃ a n c, r = .slice a n c := (by obtain ⟨l, A, c, e, _⟩ := hr2.view; exact ⟨_, _, _, e⟩); have d3 : w2.cell? ⟨w.heap.size, 3, none⟩ = some (.bool n) := (hk2.cell _ _ (by simp; omega) (fun f => f)).trans c3; have d5 : w2.cell? ⟨w.heap.size, 5, none⟩ = some (.int .i64 E) := (hk2.cell _ _ (by simp; omega) (fun f => f)).trans c5; have q0 : w2.cell? ⟨w.heap.size + 1, 0, none⟩ = some (.bool false) := (hk2.cell _ _ (by simp; omega) (fun f => f)).trans r0; have q1 : w2.cell? ⟨w.heap.size + 1, 1, none⟩ = some (.slice none 0 0) := (hk2.cell _ _ (by simp; omega) (fun f => f)).trans r1; have q2 : w2.cell? ⟨w.heap.size + 1, 2, none⟩ = some (.int .i64 0) := (hk2.cell _ _ (by simp; omega) (fun f => f)).trans r2; have hp2 : Plain w2 (w.heap.size + 1) := hk2.plain _ HP.out; have g0 := hp2.free 0; have g1 := hp2.free 1; have g2 := hp2.free 2; clear hr2 hk2 hp2 hnew))
  all_goals
    go_wp2_with fail
    have hC2 : Chg No w w2 := (HC.out.drewN _).then HK.out (fun _ _ _ f => f)
    refine bodyPost_ret (v := .agg #[.bool n, .slice rA rn rc, .int .i64 E]) ?_ rfl ⟨_, rfl, ?_, ?_⟩
    · have hres : Tryz.f20.results = #[.cell 2 47] := rfl
      simp [results, hres, asAddr]
      exact load47 _ _ _ _ _ ((cell_setCell_ne _ _ _ _ _ _ (.inr (by decide))).trans ((cell_setCell_ne _ _ _ _ _ _ (.inr (by decide))).trans (World.cell?_setCell_same _ _ _ q0))) ((cell_setCell_ne _ _ _ _ _ _ (.inr (by decide))).trans (World.cell?_setCell_same _ _ _ ((cell_setCell_ne _ _ _ _ _ _ (.inr (by decide))).trans q1))) (World.cell?_setCell_same _ _ _ ((cell_setCell_ne _ _ _ _ _ _ (.inr (by decide))).trans ((cell_setCell_ne _ _ _ _ _ _ (.inr (by decide))).trans q2)))
    · obtain ⟨l2, h1, h2⟩ := HR.out
      exact ⟨l2, h1.chgB (three_new w2 (w.heap.size + 1) _ _ _ _ _ _ q0 q1 q2 (by simp) (by simp) (by simp) (by simp) (by simp) (by simp)) (fun ad k c2 e => (HNW.out ad k c2 e).imp id (fun h o f => by have h3 : W.heap.size ≤ ad.block := h; omega)), h2⟩
    · exact hC2.then (three_new w2 (w.heap.size + 1) _ _ _ _ _ _ q0 q1 q2 (by simp) (by simp) (by simp) (by simp) (by simp) (by simp)) (fun x o hx f => by omega)
/-- What 'real' lets in, of the finite ones. -/
def RealOk (B Mo P : Nat) (M E : Int) (l : List Nat) : Prop := 1 ≤ P ∧ P ≤ B ∧ 0 ≤ M ∧ M ≤ 5 ∧ l.length ≤ (P + 63) / 64 ∧ Vl l ≠ 0 ∧ blen (Vl l) ≤ P ∧ -(Mo : Int) ≤ E ∧ E ≤ Mo
def RealOut (B Mo P : Nat) (M F E : Int) (l : List Nat) (w : World) (e : Ending) (w' : World) : Prop := ∃ b, e = .returned (.bool b) ∧ (b = true → F = 1 → RealOk B Mo P M E l) ∧ Chg No w w'
set_option maxRecDepth 100000 in
set_option maxHeartbeats 2000000 in
theorem laws_real_bad (B Mo P : Nat) (M F : Int) (n : Bool) (A : Option Addr) (c : Nat) (l : List Nat) (E : Int) (w : World) (hP : P < 18446744073709551616) (hB : B ≤ 1000) (hbad : P = 0 ∨ B < P ∨ M < 0 ∨ 5 < M) :
    Calls Tryz.prog 19 #[.agg #[.int .u64 P, .int .i64 M, .int .i64 F, .bool n, .slice A l.length c, .int .i64 E], .int .u64 B, .int .i64 Mo] w (RealOut B Mo P M F E l w) := by
  have fin : ∀ w', Chg No w w' → RealOut B Mo P M F E l w (.returned (.bool false)) w' := fun w' h => ⟨false, rfl, (fun h => by cases h), h⟩
  have HF := Lib.hid fin
  clear fin
  by_cases h1 : P = 0
  · subst h1
    clear hbad hP
    go_enter Tryz.func19, Tryz.ntmps19
    go_wp2_with fail
    go_ret
    exact HF.out _ ((Chg.refl No w).alloc _)
  have d1 : decide ((P : Int) < 1) = false := decide_eq_false (by omega)
  have d1b : decide (P < 1) = false := decide_eq_false (by omega)
  by_cases h2 : B < P
  · have d2 : decide ((B : Int) < (P : Int)) = true := decide_eq_true (by omega)
    have d2b : decide (B < P) = true := decide_eq_true h2
    clear hbad hP
    go_enter Tryz.func19, Tryz.ntmps19
    go_wp2_with fail
    go_ret
    exact HF.out _ ((Chg.refl No w).alloc _)
  have d2 : decide ((B : Int) < (P : Int)) = false := decide_eq_false (by omega)
  have d2b : decide (B < P) = false := decide_eq_false h2
  by_cases h3 : M < 0
  · have d3 : decide (M < 0) = true := decide_eq_true h3
    clear hbad hP
    go_enter Tryz.func19, Tryz.ntmps19
    go_wp2_with fail
    go_ret
    exact HF.out _ ((Chg.refl No w).alloc _)
  · have d3 : decide (M < 0) = false := decide_eq_false h3
    have h4 : 5 < M := by omega
    have d4 : decide (5 < M) = true := decide_eq_true h4
    clear hbad hP
    go_enter Tryz.func19, Tryz.ntmps19
    go_wp2_with fail
    go_ret
    exact HF.out _ ((Chg.refl No w).alloc _)
set_option maxRecDepth 100000 in
set_option maxHeartbeats 2000000 in
theorem laws_real_form (B Mo P : Nat) (M F : Int) (n : Bool) (A : Option Addr) (c : Nat) (l : List Nat) (E : Int) (w : World) (hP1 : 1 ≤ P) (hP2 : P ≤ B) (hM1 : 0 ≤ M) (hM2 : M ≤ 5) (hB : B ≤ 1000) (hF : F ≠ 1) :
    Calls Tryz.prog 19 #[.agg #[.int .u64 P, .int .i64 M, .int .i64 F, .bool n, .slice A l.length c, .int .i64 E], .int .u64 B, .int .i64 Mo] w (RealOut B Mo P M F E l w) := by
  have fin : ∀ b w', Chg No w w' → RealOut B Mo P M F E l w (.returned (.bool b)) w' := fun b w' h => ⟨b, rfl, (fun _ h => absurd h hF), h⟩
  have HF := Lib.hid fin
  have d1 : decide ((P : Int) < 1) = false := decide_eq_false (by omega)
  have d1b : decide (P < 1) = false := decide_eq_false (by omega)
  have d1c : decide (P = 0) = false := decide_eq_false (by omega)
  have d2 : decide ((B : Int) < (P : Int)) = false := decide_eq_false (by omega)
  have d2b : decide (B < P) = false := decide_eq_false (by omega)
  have d3 : decide (M < 0) = false := decide_eq_false (by omega)
  have d4 : decide (5 < M) = false := decide_eq_false (by omega)
  have t1 : (F == 1) = false := beq_eq_false_iff_ne.2 hF
  have t2 : (F != 1) = true := by simp [bne, t1]
  clear fin hF
  by_cases h0 : F = 0
  · subst h0
    go_enter Tryz.func19, Tryz.ntmps19
    go_wp2_with fail
    go_ret
    exact HF.out _ _ ((Chg.refl No w).alloc _)
  · have t3 : (F == 0) = false := beq_eq_false_iff_ne.2 h0
    clear h0
    go_enter Tryz.func19, Tryz.ntmps19
    go_wp2_with fail
    go_ret
    exact HF.out _ _ ((Chg.refl No w).alloc _)
set_option maxRecDepth 100000 in
set_option maxHeartbeats 2000000 in
theorem laws_real_long (B Mo P : Nat) (M : Int) (n : Bool) (A : Option Addr) (c : Nat) (l : List Nat) (E : Int) (w : World) (hP1 : 1 ≤ P) (hP2 : P ≤ B) (hM1 : 0 ≤ M) (hM2 : M ≤ 5) (hB : B ≤ 1000) (hl : (P + 63) / 64 < l.length) :
    Calls Tryz.prog 19 #[.agg #[.int .u64 P, .int .i64 M, .int .i64 1, .bool n, .slice A l.length c, .int .i64 E], .int .u64 B, .int .i64 Mo] w (RealOut B Mo P M 1 E l w) := by
  have fin : ∀ w', Chg No w w' → RealOut B Mo P M 1 E l w (.returned (.bool false)) w' := fun w' h => ⟨false, rfl, (fun h => by cases h), h⟩
  have HF := Lib.hid fin
  obtain ⟨k, hk⟩ : ∃ k, k = l.length := ⟨_, rfl⟩
  rw [← hk] at hl ⊢
  obtain ⟨q, hq⟩ : ∃ q, q = (P + 63) / 64 := ⟨_, rfl⟩
  have e1 : ((P : Int) + 63) / 64 = (q : Int) := by omega
  have e2 : IntKind.u64.wrap ((P : Int) + 63) = (P : Int) + 63 := IntWalk.u64_in _ (by omega)
  have e3 : IntKind.i64.wrap ((P : Int) + 63) = (P : Int) + 63 := IntWalk.i64_in _ (by omega)
  have d1 : decide ((P : Int) < 1) = false := decide_eq_false (by omega)
  have d1b : decide (P < 1) = false := decide_eq_false (by omega)
  have d1c : decide (P = 0) = false := decide_eq_false (by omega)
  have d2 : decide ((B : Int) < (P : Int)) = false := decide_eq_false (by omega)
  have d2b : decide (B < P) = false := decide_eq_false (by omega)
  have d3 : decide (M < 0) = false := decide_eq_false (by omega)
  have d4 : decide (5 < M) = false := decide_eq_false (by omega)
  have d5 : decide ((q : Int) < (k : Int)) = true := decide_eq_true (by omega)
  have d5b : (q : Int) < (k : Int) := by omega
  clear fin hk hq hl
  go_enter Tryz.func19, Tryz.ntmps19
  go_wp2_with fail
  go_ret
  exact HF.out _ ((Chg.refl No w).alloc _)
set_option maxRecDepth 100000 in
set_option maxHeartbeats 2000000 in
theorem laws_real_fin (B Mo P : Nat) (M : Int) (n : Bool) (A : Option Addr) (c : Nat) (l : List Nat) (E : Int) (w : World) (hP1 : 1 ≤ P) (hP2 : P ≤ B) (hM1 : 0 ≤ M) (hM2 : M ≤ 5) (hB : B ≤ 1000) (hMo : Mo ≤ 2000) (hl : l.length ≤ (P + 63) / 64) (hr : RdU w A l) (hm : ∀ x ∈ l, x < WB) (hc : l.length ≤ c) :
    Calls Tryz.prog 19 #[.agg #[.int .u64 P, .int .i64 M, .int .i64 1, .bool n, .slice A l.length c, .int .i64 E], .int .u64 B, .int .i64 Mo] w (RealOut B Mo P M 1 E l w) := by
  have hX : Vl l < 65536 ^ 200 := by
    have h := V_lt (f := fun i => l.getD i 0) l.length (fun i hi => by have := hm _ (List.getElem_mem hi); rw [← gd_lt hi] at this; exact this)
    rw [WB_65536, ← Nat.pow_mul] at h
    exact Nat.lt_of_lt_of_le h (Nat.pow_le_pow_right (by decide) (by omega))
  have H1 : Hid (∀ W, Chg No w W → Calls Tryz.prog 28 #[.slice A l.length c] W (SnOut (Vl l) W)) := Lib.hid fun W hW => spec_Of A c l W (hr.chg hW) (by omega) hm hc
  have fin : ∀ b w', (b = true → Vl l ≠ 0 ∧ blen (Vl l) ≤ P ∧ -(Mo : Int) ≤ E ∧ E ≤ Mo) → Chg No w w' → RealOut B Mo P M 1 E l w (.returned (.bool b)) w' := fun b w' h1 h => ⟨b, rfl, (fun h2 _ => by obtain ⟨a1, a2, a3, a4⟩ := h1 h2; exact ⟨hP1, hP2, hM1, hM2, hl, a1, a2, a3, a4⟩), h⟩
  have HF := Lib.hid fin
  obtain ⟨k, hk⟩ : ∃ k, k = l.length := ⟨_, rfl⟩
  rw [← hk] at hl hc H1 ⊢
  obtain ⟨q, hq⟩ : ∃ q, q = (P + 63) / 64 := ⟨_, rfl⟩
  have e1 : ((P : Int) + 63) / 64 = (q : Int) := by omega
  have e2 : IntKind.u64.wrap ((P : Int) + 63) = (P : Int) + 63 := IntWalk.u64_in _ (by omega)
  have e3 : IntKind.i64.wrap ((P : Int) + 63) = (P : Int) + 63 := IntWalk.i64_in _ (by omega)
  have e4 : IntKind.i64.wrap (-(Mo : Int)) = -(Mo : Int) := IntWalk.i64_in _ (by omega)
  have e5 : IntKind.i64.wrap (P : Int) = (P : Int) := IntWalk.i64_in _ (by omega)
  have d1 : decide ((P : Int) < 1) = false := decide_eq_false (by omega)
  have d1b : decide (P < 1) = false := decide_eq_false (by omega)
  have d1c : decide (P = 0) = false := decide_eq_false (by omega)
  have d2 : decide ((B : Int) < (P : Int)) = false := decide_eq_false (by omega)
  have d2b : decide (B < P) = false := decide_eq_false (by omega)
  have d3 : decide (M < 0) = false := decide_eq_false (by omega)
  have d4 : decide (5 < M) = false := decide_eq_false (by omega)
  have d5 : decide ((q : Int) < (k : Int)) = false := decide_eq_false (by omega)
  have d5b : ¬ (q : Int) < (k : Int) := by omega
  have d5c : decide (q < k) = false := decide_eq_false (by omega)
  have HX := Lib.hid hX
  clear fin hk hq hl hr hm hX
  have k1 := Lib.hid ((Chg.refl No w).alloc (.cells #[.int .u64 P, .int .i64 M, .int .i64 1, .bool n, .slice A k c, .int .i64 E] 43))
  have c0 := World.cell?_alloc_new w #[.int .u64 P, .int .i64 M, .int .i64 1, .bool n, .slice A k c, .int .i64 E] 43 0
  have c5 := World.cell?_alloc_new w #[.int .u64 P, .int .i64 M, .int .i64 1, .bool n, .slice A k c, .int .i64 E] 43 5
  have HC := Lib.hid (And.intro c0 c5)
  have hlt : w.heap.size < (w.alloc (.cells #[.int .u64 P, .int .i64 M, .int .i64 1, .bool n, .slice A k c, .int .i64 E] 43)).heap.size := by simp
  have HLT := Lib.hid hlt
  clear c0 c5 hlt
  have H1w := Lib.hid (H1.out _ k1.out)
  go_enter Tryz.func19, Tryz.ntmps19
  go_wp2_with fail
  refine H1w.out.mono ?_
  rintro e w2 ⟨r, rfl, hr2, hk2⟩
  obtain ⟨rA, rn, rc, rfl⟩ := (show ∃ a n c, r = .slice a n c by obtain ⟨l, A, c, e, _⟩ := hr2.view; exact ⟨_, _, _, e⟩)
  have q0 := (hk2.cell _ _ HLT.out (fun f => f)).trans HC.out.1
  have q5 := (hk2.cell _ _ HLT.out (fun f => f)).trans HC.out.2
  simp at q0 q5
  have hrn : (rn = 0 ↔ Vl l = 0) := by
    obtain ⟨ll, hS, hv, hd, ht⟩ := hr2
    obtain ⟨A2, c2, e2, _⟩ := hS
    have e2 : Value.slice rA rn rc = .slice A2 (ints ll).length c2 := e2
    simp [ints_length] at e2
    obtain ⟨-, rfl, -⟩ := e2
    rw [← hv]
    constructor
    · intro h
      have : ll = [] := List.length_eq_zero_iff.1 h
      subst this; rfl
    · intro h
      rcases Nat.eq_zero_or_pos ll.length with h' | h'
      · exact h'
      · have := Vb_ge ht h'
        have := Nat.pow_pos (n := ll.length - 1) (show 0 < 65536 by decide)
        omega
  have H2 : Hid (∀ j, Calls Tryz.prog 56 #[.slice rA rn rc] (w2.drewN j) fun e w' => e = .returned (.int .i64 (blen (Vl l))) ∧ w' = w2.drewN j) := Lib.hid fun j => (spec_Len (.slice rA rn rc) (Vl l) 200 (w2.drewN j) (hr2.chg ((Chg.refl No w2).drewN j)) HX.out (by decide)).mono fun _ _ h => ⟨h.1, h.2.symm⟩
  have HK := Lib.hid (k1.out.then hk2 (fun _ _ _ f => f))
  clear hr2 hk2
  by_cases h0 : rn = 0
  · have d6 : decide ((0 : Int) < (rn : Int)) = false := decide_eq_false (by omega)
    have d6b : decide (0 < rn) = false := decide_eq_false (by omega)
    clear h0 hrn
    go_wp2_with fail
    go_quiet (fail)
    go_wp2_with fail
    go_ret
    exact HF.out _ _ (fun h => by cases h) (HK.out.drewN _)
  have d6 : decide ((0 : Int) < (rn : Int)) = true := decide_eq_true (by omega)
  have d6b : decide (0 < rn) = true := decide_eq_true (by omega)
  have hX0 : Vl l ≠ 0 := fun h => h0 (hrn.2 h)
  obtain ⟨L, hL⟩ : ∃ L, L = blen (Vl l) := ⟨_, rfl⟩
  rw [← hL] at H2 HF
  have HX0 := Lib.hid hX0
  have hLb : L ≤ 4000 := by
    rw [hL]
    have := blen_le (P := 16 * 200) hX0 (by have := HX.out; rwa [show (65536 : Nat) = 2 ^ 16 by decide, ← Nat.pow_mul] at this)
    omega
  clear h0 hrn hX0 hL
  by_cases h1 : L ≤ P
  · have d7 : decide ((L : Int) ≤ (P : Int)) = true := decide_eq_true (by omega)
    have d7b : decide (L ≤ P) = true := decide_eq_true h1
    by_cases h2 : -(Mo : Int) ≤ E
    · have d8 : decide (-(Mo : Int) ≤ E) = true := decide_eq_true h2
      by_cases h3 : E ≤ Mo
      · have d9 : decide (E ≤ (Mo : Int)) = true := decide_eq_true h3
        have HH := Lib.hid (And.intro h1 (And.intro h2 h3))
        clear h1 h2 h3
        go_wp2_with fail
        go_quiet ((go_at_call 56; exact Calls.quiet_of_same (H2.out _)))
        go_wp2_with fail
        go_ret
        exact HF.out _ _ (fun _ => ⟨HX0.out, HH.out⟩) (HK.out.drewN _)
      · have d9 : decide (E ≤ (Mo : Int)) = false := decide_eq_false h3
        clear h1 h2 h3
        go_wp2_with fail
        go_quiet ((go_at_call 56; exact Calls.quiet_of_same (H2.out _)))
        go_wp2_with fail
        go_ret
        exact HF.out _ _ (fun h => by cases h) (HK.out.drewN _)
    · have d8 : decide (-(Mo : Int) ≤ E) = false := decide_eq_false h2
      clear h1 h2
      go_wp2_with fail
      go_quiet ((go_at_call 56; exact Calls.quiet_of_same (H2.out _)))
      go_wp2_with fail
      go_ret
      exact HF.out _ _ (fun h => by cases h) (HK.out.drewN _)
  · have d7 : decide ((L : Int) ≤ (P : Int)) = false := decide_eq_false (by omega)
    have d7b : decide (L ≤ P) = false := decide_eq_false h1
    clear h1
    go_wp2_with fail
    go_quiet ((go_at_call 56; exact Calls.quiet_of_same (H2.out _)))
    go_wp2_with fail
    go_ret
    exact HF.out _ _ (fun h => by cases h) (HK.out.drewN _)
end Go.Proofs.YtacfhndledcmgaaGreatDoor
