/- Lemmas for the law FnShortest: functions of the specification on numbers. Conditions: those in each theorem; none besides. -/
import Derived.Test.YtacfhndledcmgaaGreatDoorH6
set_option linter.unusedVariables false
set_option linter.unusedSimpArgs false
namespace Go.Proofs.YtacfhndledcmgaaGreatDoor
open Go.RowKit
theorem cmp3_gt {x y : Nat} (h : y < x) : cmp3 x y = 1 := by
  unfold cmp3; rw [if_neg (by omega), if_pos h]
theorem cmp3_lt {x y : Nat} (h : x < y) : cmp3 x y = -1 := by
  unfold cmp3; rw [if_pos h]
theorem cmp3_eq {x y : Nat} (h : x = y) : cmp3 x y = 0 := by
  unfold cmp3; rw [if_neg (by omega), if_neg (by omega)]
set_option maxRecDepth 100000 in
set_option maxHeartbeats 1000000 in
theorem spec_Cmp (x y : Value) (X Y n : Nat) (w : World) (hx : Sn w x X) (hy : Sn w y Y) (hX : X < 65536 ^ n) (hY : Y < 65536 ^ n) (hn : n ≤ 10000) :
    Calls Tryz.prog 29 #[x, y] w fun e w' => e = .returned (.int .i64 (cmp3 X Y)) ∧ Chg No w w' := by
  obtain ⟨la, A, ca, rfl, hca, hra, rfl, hda, hta⟩ := hx.view
  obtain ⟨lb, B, cb, rfl, hcb, hrb, rfl, hdb, htb⟩ := hy.view
  have hla := Sn_len hta hX
  have hlb := Sn_len htb hY
  clear hX hY hx hy
  obtain ⟨na, ena⟩ : ∃ na, na = la.length := ⟨_, rfl⟩
  obtain ⟨nb, enb⟩ : ∃ nb, nb = lb.length := ⟨_, rfl⟩
  rw [← ena] at hla hca ⊢
  rw [← enb] at hlb hcb ⊢
  rcases Nat.lt_trichotomy na nb with hl | hl | hl
  · have i1 : (na : Int) < nb := by omega
    have hc := Lib.hid (cmp3_lt (short_lt hda htb (by omega)))
    clear hl ena enb hra hrb
    go_enter Tryz.func29, Tryz.ntmps29
    go_wp2_with fail
    go_ret
    exact ⟨by rw [hc.out]; rfl, Chg.refl _ _⟩
  · subst hl
    have HN := Lib.hid (And.intro ena enb)
    have HA := Lib.hid hra
    have HB := Lib.hid hrb
    clear ena enb hra hrb hta htb
    go_enter Tryz.func29, Tryz.ntmps29
    go_wp2_with fail
    go_loopw [5] (fun iv wr => Hid (Chg No w wr) ∧ ∃ (j : Nat) (J : Int), j ≤ na ∧ iv = .int .i64 J ∧ Hid (J = (j : Int) - 1) ∧ Hid (Vb (la.drop j) = Vb (lb.drop j))) (fun iv _ => (intOf iv + 1).toNat)
    case atStart =>
      refine ⟨Lib.hid (Chg.refl _ _), na, (na : Int) - 1, Nat.le_refl _, by go_num, Lib.hid rfl, Lib.hid ?_⟩
      rw [List.drop_of_length_le (by have := HN.out; omega), List.drop_of_length_le (by have := HN.out; omega)]
    case round =>
      obtain ⟨hC, j, J, hj, rfl, hJ, hV⟩ := hrel
      rcases Nat.eq_zero_or_pos j with h0 | h0
      · obtain rfl : J = -1 := by have := hJ.out; omega
        have HF := Lib.hid (cmp3_eq (by have := hV.out; rw [h0] at this; simpa using this : Vb la = Vb lb))
        clear h0
        go_wp2_with fail
        go_ret
        exact ⟨by rw [HF.out]; rfl, hC.out⟩
      · obtain ⟨p, rfl⟩ : ∃ p, j = p + 1 := ⟨j - 1, by omega⟩
        obtain rfl : J = (p : Int) := by have := hJ.out; omega
        obtain ⟨ad, rfl, c1⟩ := (HA.out.chg hC.out) p (by have := HN.out; omega)
        obtain ⟨bd, rfl, c2⟩ := (HB.out.chg hC.out) p (by have := HN.out; omega)
        obtain ⟨u, hu⟩ : ∃ u, u = la.getD p 0 := ⟨_, rfl⟩
        obtain ⟨v, hv⟩ : ∃ v, v = lb.getD p 0 := ⟨_, rfl⟩
        rw [← hu] at c1
        rw [← hv] at c2
        have i1 : (p : Int) < na := by omega
        rcases Nat.lt_trichotomy u v with hl | hl | hl
        · have t1 : decide (u < v) = true := decide_eq_true hl
          have HF := Lib.hid (cmp3_lt (high_lt hda (i := p) (by have := HN.out; omega) (by have := HN.out; omega) hV.out (by omega)))
          clear hl hu hv h0
          go_wp2_with fail
          go_quiet (fail)
          go_wp2_with fail
          go_ret
          exact ⟨by rw [HF.out]; rfl, hC.out.drewN _⟩
        · subst hl
          have t1 : decide (u < u) = false := decide_eq_false (by omega)
          have HE := Lib.hid (And.intro hu hv)
          clear hu hv h0
          go_wp2_with fail
          go_quiet (fail)
          go_wp2_with fail
          go_quiet (fail)
          go_wp2_with fail
          go_roundw
          case rel =>
            refine ⟨Lib.hid (hC.out.drewN _), p, (p : Int) - 1, by omega, by go_num, Lib.hid rfl, Lib.hid ?_⟩
            rw [Vb_drop (by have := HN.out; omega), Vb_drop (l := lb) (by have := HN.out; omega), hV.out, ← HE.out.1, ← HE.out.2]
          case measure => simp [intOf]
        · have t1 : decide (u < v) = false := decide_eq_false (by omega)
          have t2 : decide (v < u) = true := decide_eq_true hl
          have HF := Lib.hid (cmp3_gt (high_lt hdb (i := p) (by have := HN.out; omega) (by have := HN.out; omega) hV.out.symm (by omega)))
          clear hl hu hv h0
          go_wp2_with fail
          go_quiet (fail)
          go_wp2_with fail
          go_quiet (fail)
          go_wp2_with fail
          go_ret
          exact ⟨by rw [HF.out]; rfl, (hC.out.drewN _).drewN _⟩
  · have i1 : ¬ (na : Int) < nb := by omega
    have i2 : (nb : Int) < na := by omega
    have hc := Lib.hid (cmp3_gt (short_lt hdb hta (by omega)))
    clear hl ena enb hra hrb
    go_enter Tryz.func29, Tryz.ntmps29
    go_wp2_with fail
    go_ret
    exact ⟨by rw [hc.out]; rfl, Chg.refl _ _⟩
set_option maxRecDepth 100000 in
set_option maxHeartbeats 1000000 in
theorem spec_Len (x : Value) (X n : Nat) (w : World) (hx : Sn w x X) (hX : X < 65536 ^ n) (hn : n ≤ 10000) :
    Calls Tryz.prog 56 #[x] w fun e w' => e = .returned (.int .i64 (blen X)) ∧ w = w' := by
  obtain ⟨la, A, ca, rfl, hca, hra, rfl, hda, hta⟩ := hx.view
  have hla := Sn_len hta hX
  clear hX hx
  obtain ⟨na, ena⟩ : ∃ na, na = la.length := ⟨_, rfl⟩
  rw [← ena] at hla hca ⊢
  rcases Nat.eq_zero_or_pos na with h0 | h0
  · subst h0
    have HF : blen (Vb la) = 0 := by
      have : la = [] := List.length_eq_zero_iff.1 ena.symm
      subst this; rfl
    have HF := Lib.hid HF
    clear ena hra hta
    go_enter Tryz.func56, Tryz.ntmps56
    go_wp2_with fail
    go_ret
    exact ⟨by rw [HF.out]; rfl, rfl⟩
  · obtain ⟨m, rfl⟩ : ∃ m, na = m + 1 := ⟨na - 1, by omega⟩
    obtain ⟨ad, rfl, c1⟩ := hra m (by omega)
    obtain ⟨t, ht⟩ : ∃ t, t = la.getD m 0 := ⟨_, rfl⟩
    have ht0 : t ≠ 0 := by
      rw [ht]
      have := hta.resolve_left (by omega)
      rwa [← ena, Nat.add_sub_cancel] at this
    have htl : t < 65536 := by rw [ht]; exact dig_lt hda m
    have HF := Lib.hid (blen_Vb ena.symm hda ht ht0)
    rw [← ht] at c1
    clear ena hra hta ht hda ht0
    have i1 : ((m + 1 : Nat) : Int) - 1 = (m : Int) := by omega
    have i2 : (m : Int) < ((m + 1 : Nat) : Int) := by omega
    have i3 : (((m + 1 : Nat) : Int) == 0) = false := beq_eq_false_iff_ne.2 (by omega)
    go_enter Tryz.func56, Tryz.ntmps56
    go_wp2_with fail
    go_loop [3, 4] (fun nv tv => ∃ u k : Nat, nv = .int .i64 ((16 * m + k : Nat) : Int) ∧ tv = .int .i64 u ∧ u ≤ t ∧ k + u ≤ t ∧ Hid (k + blen u = blen t)) (fun _ tv => (intOf tv).toNat)
    case atStart => exact ⟨t, 0, by go_num, rfl, Nat.le_refl _, by omega, Lib.hid (by omega)⟩
    case round =>
      obtain ⟨u, k, rfl, rfl, hu, hk, hV⟩ := hrel
      by_cases hu0 : u = 0
      · subst hu0
        go_wp2_with fail
        go_ret
        refine ⟨?_, rfl⟩
        rw [HF.out, ← hV.out]; simp [blen]
      · have i4 : (0 : Int) < u := by omega
        have HH := Lib.hid (blen_half (t := u) (by omega))
        obtain ⟨q, hq⟩ : ∃ q, q = u / 2 := ⟨_, rfl⟩
        have e1 : (u : Int) / 2 = (q : Int) := by omega
        have hq2 : q < u := by omega
        have HQ := Lib.hid hq
        clear hq
        go_wp2_with fail
        go_round
        case rel => exact ⟨q, k + 1, by go_num, rfl, by omega, by omega, Lib.hid (by have h1 := HH.out; have h2 := hV.out; rw [← HQ.out] at h1; omega)⟩
        case measure => simp [intOf]; omega
set_option maxRecDepth 100000 in
set_option maxHeartbeats 1000000 in
theorem spec_Bit (i : Nat) (w : World) (hi : i ≤ 100000) :
    Calls Tryz.prog 58 #[.int .i64 i] w (SnOut (2 ^ i) w) := by
  obtain ⟨ci, hi1, hi2, hi3, hi4⟩ := info_of info3
  obtain ⟨q, hq⟩ : ∃ q, q = i / 16 := ⟨_, rfl⟩
  obtain ⟨r, hr⟩ : ∃ r, r = i % 16 := ⟨_, rfl⟩
  have e1 : (i : Int) / 16 = (q : Int) := by omega
  have e2 : (i : Int) % 16 = (r : Int) := by omega
  have hr16 : r < 16 := by omega
  have hq1 : q ≤ 10000 := by omega
  have hp : 2 ^ r < 65536 := Nat.lt_of_lt_of_le (Nat.pow_lt_pow_right (by decide) hr16) (by decide)
  have HI : Hid (i = 16 * q + r) := Lib.hid (by omega)
  have i2 : (q : Int) < ((q + 1 : Nat) : Int) := by omega
  clear hq hr
  go_enter Tryz.func58, Tryz.ntmps58
  go_wp2_with (refine wpList_makeI (w0 := w) rfl (.tmp 6) 29 rfl 3 ci Tryz.underlying29 hi1 hi2 hi3 (by rw [hi4]; omega) _ (q + 1) rfl (by omega) (by omega) (Chg.refl _ _) ?_; intro w1 hob; have HO := Lib.hid hob; have hc := hob.cell q (by simp); have hf := hob.free q; clear hob)
  go_ret
  have ew : wrap64 ((2 : Int) ^ r) = ((2 ^ r : Nat) : Int) := by
    have : ((2 ^ r : Nat) : Int) = (2 : Int) ^ r := Int.natCast_pow 2 r
    rw [← this]
    generalize 2 ^ r = P at hp
    unfold wrap64; omega
  have hs := HO.out.set (i := q) (2 ^ r) (by simp)
  rw [← ew] at hs
  have hl : ((List.replicate (q + 1) 0).set q (2 ^ r)).length = q + 1 := by simp
  have hsl := hs.sl (c := q + 1) (by omega)
  rw [hl] at hsl
  refine ⟨_, rfl, ⟨(List.replicate (q + 1) 0).set q (2 ^ r), hsl, ?_, set_dig (fun d hd => by rw [List.eq_of_mem_replicate hd]; decide) hp, .inr ?_⟩, hs.chg⟩
  · rw [Vb_bit, ← HI.out]
  · rw [hl, Nat.add_sub_cancel, set_gd_same (by simp)]
    exact Nat.ne_of_gt (Nat.two_pow_pos r)
theorem and16 {y : Nat} (h : y < WB) : bits BinOp.and .u64 (y : Int) 65535 = ((y % 65536 : Nat) : Int) := by
  rw [show (65535 : Int) = ((65535 : Nat) : Int) from rfl, bits_and_u64_nat y 65535 h (by decide), show (65535 : Nat) = 2 ^ 16 - 1 by decide, Nat.and_two_pow_sub_one_eq_mod]
theorem d16_get (x k : Nat) (hk : k < 4) : (d16 x).getD k 0 = x / 2 ^ (16 * k) % 65536 := by
  rcases k with _ | _ | _ | _ | k
  · simp [d16]
  · simp [d16]
  · simp [d16]
  · simp [d16]
  · omega
theorem take_snoc (l : List Nat) {k : Nat} (h : k < l.length) : l.take (k + 1) = l.take k ++ [l.getD k 0] := by
  rw [List.take_succ_eq_append_getElem h, gd_lt h]
theorem flat_snoc (l : List Nat) {i : Nat} (h : i < l.length) : (l.take (i + 1)).flatMap d16 = (l.take i).flatMap d16 ++ d16 (l.getD i 0) := by
  rw [take_snoc l h, List.flatMap_append]; simp
set_option maxRecDepth 100000 in
set_option maxHeartbeats 1000000 in
theorem spec_trimS (A : Option Addr) (c : Nat) (l : List Nat) (w : World) (h : Sl w (.slice A l.length c) (ints l)) (hb : ∀ d ∈ l, d < 65536) (hl : l.length < 1048576) :
    Calls Tryz.prog 67 #[.slice A l.length c] w fun e w' => ∃ k, e = .returned (.slice A k c) ∧ k ≤ l.length ∧ Sn w (.slice A k c) (Vb l) ∧ w = w' := by
  obtain ⟨A2, c2, e2, hle, hcell⟩ := h
  rw [ints_length] at hle
  obtain ⟨rfl, -, rfl⟩ : A = A2 ∧ True ∧ c = c2 := by simp at e2; exact ⟨e2.1, trivial, e2.2.2⟩
  have hcell' : ∀ i, i < l.length → ∃ ad, A = some ad ∧ w.cell? (ad.add i) = some (.int .i64 (l.getD i 0 : Nat)) := fun i hi => by
    obtain ⟨ad, e, hh⟩ := hcell i (by rw [ints_length]; exact hi)
    exact ⟨ad, e, by rw [hh, ints_get]⟩
  obtain ⟨n, hn⟩ : ∃ n, n = l.length := ⟨_, rfl⟩
  have HT := Lib.hid fun k (hk : TrimAt l k) => (show Sn w (.slice A k c) (Vb l) from
    ⟨l.take k, by have := Sl.take (k := k) hcell (by rw [ints_length]; exact hk.1) (by rw [ints_length]; exact hle); unfold ints at *; rwa [← List.map_take] at this, Vb_cut hk, fun d hd => hb d (List.mem_of_mem_take hd), Top_cut hk⟩)
  rw [← hn] at hle hl hcell' ⊢
  have HN := Lib.hid hn
  clear hcell hb hn
  go_enter Tryz.func67, Tryz.ntmps67
  go_wp2_with fail
  go_loop [0] (fun v => ∃ k : Nat, k ≤ n ∧ v = .slice A k c ∧ Hid (∀ j, k ≤ j → l.getD j 0 = 0)) (fun v => match v with | .slice _ k _ => k | _ => 0)
  case atStart => exact ⟨n, by omega, rfl, Lib.hid (fun j hj => gd_ge (by rw [← HN.out]; exact hj))⟩
  case round =>
    obtain ⟨k, hk, rfl, hZ⟩ := hrel
    by_cases hk0 : k = 0
    · subst hk0
      go_wp2_with fail
      go_ret
      exact ⟨0, rfl, by omega, HT.out 0 ⟨by omega, hZ.out, .inl rfl⟩, rfl⟩
    · obtain ⟨p, rfl⟩ : ∃ p, k = p + 1 := ⟨k - 1, by omega⟩
      have i1 : (0 : Int) < ((p + 1 : Nat) : Int) := by omega
      have i2 : wrap64 (((p + 1 : Nat) : Int) - 1) = (p : Int) := by unfold wrap64; omega
      have i3 : (p : Int) < ((p + 1 : Nat) : Int) := by omega
      have i5 : (p : Int) ≤ c := by omega
      obtain ⟨ad, rfl, hc⟩ := hcell' p (by omega)
      obtain ⟨y, hy⟩ : ∃ y, y = l.getD p 0 := ⟨_, rfl⟩
      rw [← hy] at hc
      by_cases hd : l.getD p 0 = 0
      · have hy0 : y = 0 := by rw [hy, hd]
        subst hy0
        have HD := Lib.hid hd
        clear hd hy
        go_wp2_with fail
        go_round
        case rel =>
          refine ⟨p, by omega, rfl, Lib.hid (fun j h1 => ?_)⟩
          by_cases e : j = p
          · rw [e]; exact HD.out
          · exact hZ.out j (by omega)
        case measure => simp
      · have t1 : ((y : Int) == 0) = false := beq_eq_false_iff_ne.2 (by omega)
        have HD := Lib.hid hd
        clear hd hy
        go_wp2_with fail
        go_ret
        exact ⟨p + 1, rfl, hk, HT.out (p + 1) ⟨by rw [← HN.out]; exact hk, hZ.out, .inr HD.out⟩, rfl⟩
/-- A slice that is new, or empty. -/
def NewSl (w : World) (r : Value) : Prop := ∀ ad k c, r = .slice (some ad) k c → k = 0 ∨ w.heap.size ≤ ad.block
def SnNew (X : Nat) (w : World) (e : Ending) (w' : World) : Prop := ∃ r, e = .returned r ∧ Sn w' r X ∧ NewSl w r ∧ Chg No w w'
set_option maxRecDepth 100000 in
set_option maxHeartbeats 2000000 in
theorem spec_OfN (A : Option Addr) (c : Nat) (l : List Nat) (w : World) (hr : RdU w A l) (hl : l.length ≤ 1000) (hm : ∀ x ∈ l, x < WB) (hc : l.length ≤ c) :
    Calls Tryz.prog 28 #[.slice A l.length c] w (SnNew (Vl l) w) := by
  obtain ⟨ci, hi1, hi2, hi3, hi4⟩ := info_of info3
  have G0 := Lib.hid (Gr.start (Chg.refl No w) 3)
  obtain ⟨n, hn⟩ : ∃ n, n = l.length := ⟨_, rfl⟩
  rw [← hn] at hl hc ⊢
  have HN := Lib.hid hn
  have HR := Lib.hid hr
  clear hn hr
  go_enter Tryz.func28, Tryz.ntmps28
  go_wp2_with fail
  go_loopw [3, 10] (fun ov iv wr => ∃ i : Nat, iv = .int .i64 i ∧ i ≤ n ∧ Hid (Gr w wr ov (ints ((l.take i).flatMap d16)))) (fun _ iv _ => n - (intOf iv).toNat)
  case atStart => exact ⟨0, rfl, by omega, G0⟩
  case round =>
    obtain ⟨i, rfl, hi, hG⟩ := hrel
    by_cases hin : i < n
    · obtain ⟨ad, rfl, c1⟩ := (HR.out.chg hG.out.1) i (by have := HN.out; omega)
      obtain ⟨x, hx⟩ : ∃ x, x = l.getD i 0 := ⟨_, rfl⟩
      have hxW : x < WB := by rw [hx, gd_lt (by have := HN.out; omega)]; exact hm _ (List.getElem_mem _)
      rw [← gd_lt (by have := HN.out; omega), ← hx] at c1
      have i1 : (i : Int) < n := by omega
      have HX := Lib.hid hx
      have HW := Lib.hid hxW
      clear hx hxW
      go_wp2_with fail
      go_loopw [3, 6] (fun ov kv wr => ∃ k : Nat, kv = .int .i64 k ∧ k ≤ 4 ∧ Hid (Gr w wr ov (ints ((l.take i).flatMap d16 ++ (d16 x).take k)))) (fun _ kv _ => 4 - (intOf kv).toNat)
      case atStart => exact ⟨0, rfl, by omega, by simpa using hG⟩
      case round =>
        obtain ⟨k, rfl, hk, hK⟩ := hrel
        have hlen : ((l.take i).flatMap d16 ++ (d16 x).take k).length ≤ 4004 := by
          rw [List.length_append, words_len, List.length_take, List.length_take]
          simp [d16]; omega
        by_cases hk4 : k = 4
        · subst hk4
          go_wp2_with fail
          go_roundw
          case rel => exact ⟨i + 1, by go_num, by omega, Lib.hid (by rw [flat_snoc l (by have := HN.out; omega), ← HX.out]; have := hK.out; rwa [show (d16 x).take 4 = d16 x from rfl] at this)⟩
          case measure => simp [intOf]; omega
        obtain ⟨d, hd⟩ : ∃ d, d = (d16 x).getD k 0 := ⟨_, rfl⟩
        have hd16 : d < 65536 := by rw [hd]; exact dig_lt (d16_lt x) k
        have HD := Lib.hid hd
        clear hd
        obtain rfl | rfl | rfl | rfl : k = 0 ∨ k = 1 ∨ k = 2 ∨ k = 3 := by omega
        · have ek : bits BinOp.and .u64 ((x : Int)) 65535 = (d : Int) := by
            have h := and16 (y := x) (Nat.lt_of_le_of_lt (Nat.le_refl _) HW.out)
            rw [HD.out, d16_get x 0 (by decide)]
            simpa using h
          go_wp2_with (refine wpList_append_gr (w0 := w) rfl (.tmp 18) (.tmp 25) 29 3 rfl ci _ Tryz.underlying29 hi1 hi2 rfl (noWB_int 0) hi3 (by rw [hi4]; omega) _ (ints ((l.take i).flatMap d16 ++ (d16 x).take 0)) rfl hK.out (.int .i64 d) rfl 3 rfl (by rw [ints_length]; omega) ?_; intro r w2 happ; have HP := Lib.hid happ; clear happ)
          go_roundw
          case rel => exact ⟨1, by go_num, by omega, Lib.hid (by rw [take_snoc (d16 x) (by simp [d16]), ← List.append_assoc, ← ints_snoc, ← HD.out]; exact HP.out)⟩
          case measure => simp [intOf]
        · have ek : bits BinOp.and .u64 ((x : Int) / 65536) 65535 = (d : Int) := by
            have h := and16 (y := x / 65536) (Nat.lt_of_le_of_lt (Nat.div_le_self _ _) HW.out)
            rw [HD.out, d16_get x 1 (by decide)]
            simpa using h
          go_wp2_with (refine wpList_append_gr (w0 := w) rfl (.tmp 18) (.tmp 25) 29 3 rfl ci _ Tryz.underlying29 hi1 hi2 rfl (noWB_int 0) hi3 (by rw [hi4]; omega) _ (ints ((l.take i).flatMap d16 ++ (d16 x).take 1)) rfl hK.out (.int .i64 d) rfl 3 rfl (by rw [ints_length]; omega) ?_; intro r w2 happ; have HP := Lib.hid happ; clear happ)
          go_roundw
          case rel => exact ⟨2, by go_num, by omega, Lib.hid (by rw [take_snoc (d16 x) (by simp [d16]), ← List.append_assoc, ← ints_snoc, ← HD.out]; exact HP.out)⟩
          case measure => simp [intOf]
        · have ek : bits BinOp.and .u64 ((x : Int) / 4294967296) 65535 = (d : Int) := by
            have h := and16 (y := x / 4294967296) (Nat.lt_of_le_of_lt (Nat.div_le_self _ _) HW.out)
            rw [HD.out, d16_get x 2 (by decide)]
            simpa using h
          go_wp2_with (refine wpList_append_gr (w0 := w) rfl (.tmp 18) (.tmp 25) 29 3 rfl ci _ Tryz.underlying29 hi1 hi2 rfl (noWB_int 0) hi3 (by rw [hi4]; omega) _ (ints ((l.take i).flatMap d16 ++ (d16 x).take 2)) rfl hK.out (.int .i64 d) rfl 3 rfl (by rw [ints_length]; omega) ?_; intro r w2 happ; have HP := Lib.hid happ; clear happ)
          go_roundw
          case rel => exact ⟨3, by go_num, by omega, Lib.hid (by rw [take_snoc (d16 x) (by simp [d16]), ← List.append_assoc, ← ints_snoc, ← HD.out]; exact HP.out)⟩
          case measure => simp [intOf]
        · have ek : bits BinOp.and .u64 ((x : Int) / 281474976710656) 65535 = (d : Int) := by
            have h := and16 (y := x / 281474976710656) (Nat.lt_of_le_of_lt (Nat.div_le_self _ _) HW.out)
            rw [HD.out, d16_get x 3 (by decide)]
            simpa using h
          go_wp2_with (refine wpList_append_gr (w0 := w) rfl (.tmp 18) (.tmp 25) 29 3 rfl ci _ Tryz.underlying29 hi1 hi2 rfl (noWB_int 0) hi3 (by rw [hi4]; omega) _ (ints ((l.take i).flatMap d16 ++ (d16 x).take 3)) rfl hK.out (.int .i64 d) rfl 3 rfl (by rw [ints_length]; omega) ?_; intro r w2 happ; have HP := Lib.hid happ; clear happ)
          go_roundw
          case rel => exact ⟨4, by go_num, by omega, Lib.hid (by rw [take_snoc (d16 x) (by simp [d16]), ← List.append_assoc, ← ints_snoc, ← HD.out]; exact HP.out)⟩
          case measure => simp [intOf]
    · obtain rfl : i = n := by omega
      obtain ⟨fl, hfl⟩ : ∃ fl, fl = (l.take i).flatMap d16 := ⟨_, rfl⟩
      rw [← hfl] at hG
      have hfd : ∀ e ∈ fl, e < 65536 := fun e he => words_lt (l.take i) e (by rw [← hfl]; exact he)
      have hfn : fl.length ≤ 4000 := by rw [hfl, words_len, List.length_take]; omega
      have hfv : Vb fl = Vl l := by
        rw [hfl, Vb_words _ (fun y hy => hm y (List.mem_of_mem_take hy)), HN.out, List.take_length]
      obtain ⟨g1, gb, gc, ge, g2, g3, g4, g5, g6, g7⟩ := hG.out
      have hsl := hG.out.sl
      rw [ge] at hsl
      rw [ints_length] at hsl
      have HT := spec_trimS _ gc fl wr hsl hfd (by omega)
      rw [ints_length] at ge g2
      obtain ⟨nn, hnn⟩ : ∃ nn, nn = fl.length := ⟨_, rfl⟩
      rw [← hnn] at ge g2 HT hfn
      have HT := Lib.hid HT
      have HG := Lib.hid (And.intro g1 (And.intro g2 g4))
      have HV := Lib.hid hfv
      subst ge
      clear hsl g1 g2 g3 g4 g5 g6 g7 hG hfd hfv hfl hnn
      go_wp2_with fail
      refine HT.out.mono ?_
      rintro e w3 ⟨kk, rfl, hkk, hr2, rfl⟩
      have HR := Lib.hid (And.intro hkk hr2)
      clear hr2 hkk
      go_wp2_with fail
      go_ret
      refine ⟨_, rfl, ?_, ?_, HG.out.1⟩
      · have h := HR.out.2
        rw [HV.out] at h
        exact h
      · intro ad k c2 e
        have e : Value.slice (some ⟨gb, 0, none⟩) kk gc = .slice (some ad) k c2 := e
        simp at e
        obtain ⟨rfl, rfl, rfl⟩ := e
        rcases HG.out.2.2 with h | h
        · exact .inr h
        · have h1 := HG.out.2.1; have h2 := HR.out.1
          exact .inl (by omega)
theorem spec_Of (A : Option Addr) (c : Nat) (l : List Nat) (w : World) (hr : RdU w A l) (hl : l.length ≤ 1000) (hm : ∀ x ∈ l, x < WB) (hc : l.length ≤ c) :
    Calls Tryz.prog 28 #[.slice A l.length c] w (SnOut (Vl l) w) :=
  (spec_OfN A c l w hr hl hm hc).mono fun _ _ ⟨r, h1, h2, _, h3⟩ => ⟨r, h1, h2, h3⟩
set_option maxRecDepth 100000 in
set_option maxHeartbeats 2000000 in
theorem spec_Shl (x : Value) (X n s : Nat) (w : World) (hx : Sn w x X) (hX : X < 65536 ^ n) (hn : n ≤ 10000) (hs : s ≤ 100000) :
    Calls Tryz.prog 57 #[x, .int .i64 s] w (SnOut (X * 2 ^ s) w) := by
  obtain ⟨ci, hi1, hi2, hi3, hi4⟩ := info_of info3
  have HS := Lib.hid hx
  obtain ⟨la, A, ca, rfl, hca, hra, rfl, hda, hta⟩ := hx.view
  have hla := Sn_len hta hX
  clear hX
  obtain ⟨na, ena⟩ : ∃ na, na = la.length := ⟨_, rfl⟩
  rw [← ena] at hla hca ⊢
  rcases Nat.eq_zero_or_pos na with h0 | h0
  · subst h0
    have HF : Vb la * 2 ^ s = 0 ∧ Vb la = 0 := by
      have : la = [] := List.length_eq_zero_iff.1 ena.symm
      subst this; simp [Vb]
    have HF := Lib.hid HF
    have HE := Lib.hid ena
    have hAeq : la.length = 0 := ena.symm
    clear ena hra hta hx
    rw [hAeq] at HS
    go_enter Tryz.func57, Tryz.ntmps57
    go_wp2_with fail
    go_ret
    exact ⟨_, rfl, by rw [HF.out.1]; have h := HS.out; rw [HF.out.2] at h; exact h, Chg.refl _ _⟩
  · obtain ⟨q, hq⟩ : ∃ q, q = s / 16 := ⟨_, rfl⟩
    obtain ⟨r, hr⟩ : ∃ r, r = s % 16 := ⟨_, rfl⟩
    have e1 : (s : Int) / 16 = (q : Int) := by omega
    have e2 : (s : Int) % 16 = (r : Int) := by omega
    have hr16 : r < 16 := by omega
    have hq1 : q ≤ 10000 := by omega
    have HI : Hid (s = 16 * q + r) := Lib.hid (by omega)
    obtain ⟨N, hN⟩ : ∃ N, N = q + na + 1 := ⟨_, rfl⟩
    have eN1 : (q : Int) + (na : Int) + 1 = (N : Int) := by omega
    have i3 : ((na : Int) == 0) = false := beq_eq_false_iff_ne.2 (by omega)
    have HE := Lib.hid ena
    have HRA := Lib.hid hra
    have ST := Lib.hid (shl_start la q r)
    rw [← ena, ← hN] at ST
    have hNb : N ≤ 20001 := by omega
    have HNN := Lib.hid hN
    clear hN
    clear hq hr ena hra hta hx HS
    go_enter Tryz.func57, Tryz.ntmps57
    go_wp2_with (refine wpList_makeI (w0 := w) rfl (.tmp 17) 29 rfl 3 ci Tryz.underlying29 hi1 hi2 hi3 (by rw [hi4]; omega) _ N rfl (by omega) (by omega) (Chg.refl _ _) ?_; intro w1 hob; have HO := Lib.hid hob; clear hob)
    go_loopw [21] (fun iv wr => ∃ i : Nat, iv = .int .i64 i ∧ i ≤ na ∧ Hid (∃ o, Ob w wr w.heap.size o ∧ ShlInv la q r i o)) (fun iv _ => na - (intOf iv).toNat)
    case atStart => exact ⟨0, rfl, by omega, Lib.hid ⟨_, HO.out, ST.out⟩⟩
    case round =>
      obtain ⟨i, rfl, hi, hS⟩ := hrel
      obtain ⟨o, ho, hv⟩ := hS.out
      have hol : o.length = N := by have := hv.1; have := HE.out; have := HNN.out; omega
      have hNN := HNN.out
      by_cases hin : i < na
      · obtain ⟨ad, rfl, c1⟩ := (HRA.out.chg ho.chg) i (by have := HE.out; omega)
        obtain ⟨u, hu⟩ : ∃ u, u = la.getD i 0 := ⟨_, rfl⟩
        have hu1 : u < 65536 := by rw [hu]; exact dig_lt hda i
        rw [← hu] at c1
        have i1 : (i : Int) < na := by omega
        obtain ⟨X2, hX2⟩ : ∃ X2, X2 = u * 2 ^ r := ⟨_, rfl⟩
        have hX2b : X2 < 4294967296 := by
          rw [hX2]
          have h1 : 2 ^ r ≤ 65536 := Nat.le_trans (Nat.pow_le_pow_right (by decide) (show r ≤ 16 by omega)) (by decide)
          have h2 : u * 2 ^ r ≤ 65535 * 65536 := Nat.mul_le_mul (by omega) h1
          omega
        have ex : (u : Int) * 2 ^ r = (X2 : Int) := by rw [hX2, Int.natCast_mul, Int.natCast_pow]; rfl
        obtain ⟨m, hm⟩ : ∃ m, m = X2 % 65536 := ⟨_, rfl⟩
        obtain ⟨d, hd⟩ : ∃ d, d = X2 / 65536 := ⟨_, rfl⟩
        have e3 : (X2 : Int) % 65536 = (m : Int) := by omega
        have e4 : (X2 : Int) / 65536 = (d : Int) := by omega
        obtain ⟨p, hp⟩ : ∃ p, p = q + i := ⟨_, rfl⟩
        have e5 : (q : Int) + (i : Int) = (p : Int) := by omega
        obtain ⟨g, hg⟩ : ∃ g, g = o.getD p 0 := ⟨_, rfl⟩
        have st := shl_step hr16 hda (by have := HE.out; omega) hv
        rw [← hp, ← hg, ← hu, ← hX2, ← hm, ← hd] at st
        have hg1 := st.1
        have c2 := ho.cell p (by omega)
        have f2 := ho.free p
        rw [← hg] at c2
        have i2 : (p : Int) < N := by omega
        have i3 : (p : Int) + 1 < N := by omega
        obtain ⟨s1, hs1⟩ : ∃ s1, s1 = g + m := ⟨_, rfl⟩
        have e6 : (g : Int) + (m : Int) = (s1 : Int) := by omega
        have ho1 := ho.set (i := p) s1 (by omega)
        have c3 := ho1.cell (p + 1) (by simp; omega)
        have f3 := ho1.free (p + 1)
        have ho2 := ho1.set (i := p + 1) d (by simp; omega)
        rw [hs1] at ho2
        have HF := Lib.hid (⟨_, ho2, st.2⟩ : ∃ o, Ob w _ w.heap.size o ∧ ShlInv la q r (i + 1) o)
        rw [← hs1] at HF
        clear hNN hu hX2 hm hd hp hg st ho1 ho2 hs1 ho hv hS
        go_wp2_with fail
        go_roundw
        case rel => exact ⟨i + 1, by go_num, by omega, HF⟩
        case measure => simp [intOf]; omega
      · obtain rfl : i = na := by omega
        have hE : Vb o = Vb la * 2 ^ s := by
          rw [HI.out]
          exact shl_end (by have := hv; rwa [HE.out] at this)
        have HO2 := Lib.hid ho
        have HEE := Lib.hid hE
        have HT := Lib.hid (spec_trim (.slice (some ⟨w.heap.size, 0, none⟩) N N) o wr (by have := ho.sl (c := N) (by omega); rwa [hol] at this) hv.2.2.1 (by omega))
        clear ho hv hS hol hNN hE
        go_wp2_with fail
        refine HT.out.mono ?_
        rintro e w3 ⟨r2, rfl, hr2, rfl⟩
        have HR := Lib.hid hr2
        clear hr2
        go_wp2_with fail
        go_ret
        exact ⟨_, rfl, by rw [← HEE.out]; exact HR.out, HO2.out.chg⟩
/-- What the sum's loop keeps. -/
def AddSt (la lb : List Nat) (w wr : World) (ov : Value) (c k : Nat) : Prop :=
  ∃ o, Gr w wr ov (ints o) ∧ Vb o + c * 65536 ^ k = Vb (la.take k) + Vb (lb.take k) ∧ o.length = k ∧ ∀ d ∈ o, d < 65536
theorem AddSt.next {la lb : List Nat} {w wq : World} {r : Value} {c k x y m : Nat} (hc : c ≤ 1) (h : ∃ o, o.length = k ∧ (Vb o + c * 65536 ^ k = Vb (la.take k) + Vb (lb.take k)) ∧ (∀ d ∈ o, d < 65536) ∧ Gr w wq r (ints o ++ [.int .i64 m])) (hx : la.getD k 0 = x) (hy : lb.getD k 0 = y) (hm : m = (c + x + y) % 65536) : AddSt la lb w wq r ((c + x + y) / 65536) (k + 1) := by
  obtain ⟨o, h1, h2, h3, h4⟩ := h
  subst hm
  refine ⟨o ++ [(c + x + y) % 65536], by rw [← ints_snoc]; exact h4, ?_, by simp [h1], snoc_dig h3 (Nat.mod_lt _ (by decide))⟩
  have := add_step (la := la) (lb := lb) h2 h1
  rw [hx, hy] at this
  exact this
theorem AddSt.chg {la lb : List Nat} {w wr : World} {ov : Value} {c k : Nat} (h : AddSt la lb w wr ov c k) : Chg No w wr := by
  obtain ⟨o, h1, _⟩ := h
  exact h1.1
set_option maxRecDepth 100000 in
set_option maxHeartbeats 4000000 in
theorem spec_Add (x y : Value) (X Y n : Nat) (w : World) (hx : Sn w x X) (hy : Sn w y Y) (hX : X < 65536 ^ n) (hY : Y < 65536 ^ n) (hn : n ≤ 10000) :
    Calls Tryz.prog 41 #[x, y] w (SnOut (X + Y) w) := by
  obtain ⟨ci, hi1, hi2, hi3, hi4⟩ := info_of info3
  have G0 := Lib.hid (Gr.start (Chg.refl No w) 3)
  obtain ⟨la, A, ca, rfl, hca, hra, rfl, hda, hta⟩ := hx.view
  obtain ⟨lb, B, cb, rfl, hcb, hrb, rfl, hdb, htb⟩ := hy.view
  have hla := Sn_len hta hX
  have hlb := Sn_len htb hY
  clear hX hY hx hy
  obtain ⟨na, ena⟩ : ∃ na, na = la.length := ⟨_, rfl⟩
  obtain ⟨nb, enb⟩ : ∃ nb, nb = lb.length := ⟨_, rfl⟩
  rw [← ena] at hla hca ⊢
  rw [← enb] at hlb hcb ⊢
  have HN := Lib.hid (And.intro ena enb)
  have HA := Lib.hid hra
  have HB := Lib.hid hrb
  clear ena enb hra hrb hta htb
  go_enter Tryz.func41, Tryz.ntmps41
  go_wp2_with fail
  go_loopw [5, 6, 7] (fun ov cv iv wr => ∃ c k : Nat, cv = .int .i64 c ∧ iv = .int .i64 k ∧ c ≤ 1 ∧ k ≤ 10000 ∧ Hid (AddSt la lb w wr ov c k)) (fun _ _ iv _ => max na nb - (intOf iv).toNat)
  case atStart => exact ⟨0, 0, rfl, rfl, by omega, by omega, Lib.hid ⟨[], G0.out, by simp [Vb], rfl, by simp⟩⟩
  case round =>
    obtain ⟨c, k, rfl, rfl, hc, hk, hS⟩ := hrel
    have hC := hS.out.chg
    rcases Nat.lt_or_ge k na with h1 | h1 <;> rcases Nat.lt_or_ge k nb with h2 | h2
    · have i1 : (k : Int) < na := by omega
      have d1 : decide ((k : Int) < na) = true := decide_eq_true i1
      obtain ⟨ad, rfl, c1⟩ := (HA.out.chg hC) k (by have := HN.out; omega)
      obtain ⟨u, hu⟩ : ∃ u, u = la.getD k 0 := ⟨_, rfl⟩
      have hu1 : u < 65536 := by rw [hu]; exact dig_lt hda k
      rw [← hu] at c1
      have i2 : (k : Int) < nb := by omega
      have d2 : decide ((k : Int) < nb) = true := decide_eq_true i2
      obtain ⟨bd, rfl, c2⟩ := (HB.out.chg hC) k (by have := HN.out; omega)
      obtain ⟨v, hv⟩ : ∃ v, v = lb.getD k 0 := ⟨_, rfl⟩
      have hv1 : v < 65536 := by rw [hv]; exact dig_lt hdb k
      rw [← hv] at c2
      obtain ⟨m, hm⟩ : ∃ m, m = (c + u + v) % 65536 := ⟨_, rfl⟩
      obtain ⟨q, hq⟩ : ∃ q, q = (c + u + v) / 65536 := ⟨_, rfl⟩
      have e1 : ((c : Int) + u + v) % 65536 = (m : Int) := by omega
      have e2 : ((c : Int) + u + v) / 65536 = (q : Int) := by omega
      have hq1 : q ≤ 1 := by omega
      have HM := Lib.hid (And.intro hm hq)
      have HU := Lib.hid (And.intro hu hv)
      clear hm hq hu hv
      obtain ⟨o, g1, g2, g3, g4⟩ := hS.out
      have HG := Lib.hid g1
      have HO := Lib.hid (And.intro g2 (And.intro g3 g4))
      have hol : o.length ≤ 10000 := by omega
      clear g1 g2 g3 g4 hC
      go_wp2_with (refine wpList_append_gr (w0 := w) rfl (.tmp 41) (.tmp 44) 29 3 rfl ci _ Tryz.underlying29 hi1 hi2 rfl (noWB_int 0) hi3 (by rw [hi4]; omega) _ (ints o) rfl HG.out (.int .i64 m) rfl 3 rfl (by rw [ints_length]; omega) ?_; intro r w2 happ; have HP := Lib.hid happ; clear happ)
      go_roundw
      case rel =>
        refine ⟨q, k + 1, by rw [e2], by go_num, hq1, by omega, Lib.hid ?_⟩
        rw [HM.out.2]
        exact AddSt.next hc ⟨o, HO.out.2.1, HO.out.1, HO.out.2.2, HP.out⟩ HU.out.1.symm HU.out.2.symm HM.out.1
      case measure => simp [intOf]; omega
    · have i1 : (k : Int) < na := by omega
      have d1 : decide ((k : Int) < na) = true := decide_eq_true i1
      obtain ⟨ad, rfl, c1⟩ := (HA.out.chg hC) k (by have := HN.out; omega)
      obtain ⟨u, hu⟩ : ∃ u, u = la.getD k 0 := ⟨_, rfl⟩
      have hu1 : u < 65536 := by rw [hu]; exact dig_lt hda k
      rw [← hu] at c1
      have i2 : ¬ (k : Int) < nb := by omega
      have d2 : decide ((k : Int) < nb) = false := decide_eq_false i2
      obtain ⟨v, hv⟩ : ∃ v, v = lb.getD k 0 := ⟨_, rfl⟩
      obtain rfl : v = 0 := by rw [hv]; exact gd_ge (by have := HN.out; omega)
      obtain ⟨m, hm⟩ : ∃ m, m = (c + u + 0) % 65536 := ⟨_, rfl⟩
      obtain ⟨q, hq⟩ : ∃ q, q = (c + u + 0) / 65536 := ⟨_, rfl⟩
      have e1 : ((c : Int) + u) % 65536 = (m : Int) := by omega
      have e2 : ((c : Int) + u) / 65536 = (q : Int) := by omega
      have hq1 : q ≤ 1 := by omega
      have HM := Lib.hid (And.intro hm hq)
      have HU := Lib.hid (And.intro hu hv)
      clear hm hq hu hv
      obtain ⟨o, g1, g2, g3, g4⟩ := hS.out
      have HG := Lib.hid g1
      have HO := Lib.hid (And.intro g2 (And.intro g3 g4))
      have hol : o.length ≤ 10000 := by omega
      clear g1 g2 g3 g4 hC
      go_wp2_with (refine wpList_append_gr (w0 := w) rfl (.tmp 41) (.tmp 44) 29 3 rfl ci _ Tryz.underlying29 hi1 hi2 rfl (noWB_int 0) hi3 (by rw [hi4]; omega) _ (ints o) rfl HG.out (.int .i64 m) rfl 3 rfl (by rw [ints_length]; omega) ?_; intro r w2 happ; have HP := Lib.hid happ; clear happ)
      go_roundw
      case rel =>
        refine ⟨q, k + 1, by rw [e2], by go_num, hq1, by omega, Lib.hid ?_⟩
        rw [HM.out.2]
        exact AddSt.next hc ⟨o, HO.out.2.1, HO.out.1, HO.out.2.2, HP.out⟩ HU.out.1.symm HU.out.2.symm HM.out.1
      case measure => simp [intOf]; omega
    · have i1 : ¬ (k : Int) < na := by omega
      have d1 : decide ((k : Int) < na) = false := decide_eq_false i1
      have d1n : decide (k < na) = false := decide_eq_false (by omega)
      obtain ⟨u, hu⟩ : ∃ u, u = la.getD k 0 := ⟨_, rfl⟩
      obtain rfl : u = 0 := by rw [hu]; exact gd_ge (by have := HN.out; omega)
      have i2 : (k : Int) < nb := by omega
      have d2 : decide ((k : Int) < nb) = true := decide_eq_true i2
      obtain ⟨bd, rfl, c2⟩ := (HB.out.chg hC) k (by have := HN.out; omega)
      obtain ⟨v, hv⟩ : ∃ v, v = lb.getD k 0 := ⟨_, rfl⟩
      have hv1 : v < 65536 := by rw [hv]; exact dig_lt hdb k
      rw [← hv] at c2
      obtain ⟨m, hm⟩ : ∃ m, m = (c + 0 + v) % 65536 := ⟨_, rfl⟩
      obtain ⟨q, hq⟩ : ∃ q, q = (c + 0 + v) / 65536 := ⟨_, rfl⟩
      have e1 : ((c : Int) + v) % 65536 = (m : Int) := by omega
      have e2 : ((c : Int) + v) / 65536 = (q : Int) := by omega
      have hq1 : q ≤ 1 := by omega
      have HM := Lib.hid (And.intro hm hq)
      have HU := Lib.hid (And.intro hu hv)
      clear hm hq hu hv
      obtain ⟨o, g1, g2, g3, g4⟩ := hS.out
      have HG := Lib.hid g1
      have HO := Lib.hid (And.intro g2 (And.intro g3 g4))
      have hol : o.length ≤ 10000 := by omega
      clear g1 g2 g3 g4 hC
      go_wp2_with (refine wpList_append_gr (w0 := w) rfl (.tmp 41) (.tmp 44) 29 3 rfl ci _ Tryz.underlying29 hi1 hi2 rfl (noWB_int 0) hi3 (by rw [hi4]; omega) _ (ints o) rfl HG.out (.int .i64 m) rfl 3 rfl (by rw [ints_length]; omega) ?_; intro r w2 happ; have HP := Lib.hid happ; clear happ)
      go_roundw
      case rel =>
        refine ⟨q, k + 1, by rw [e2], by go_num, hq1, by omega, Lib.hid ?_⟩
        rw [HM.out.2]
        exact AddSt.next hc ⟨o, HO.out.2.1, HO.out.1, HO.out.2.2, HP.out⟩ HU.out.1.symm HU.out.2.symm HM.out.1
      case measure => simp [intOf]; omega
    · have i1 : ¬ (k : Int) < na := by omega
      have d1 : decide ((k : Int) < na) = false := decide_eq_false i1
      have d1n : decide (k < na) = false := decide_eq_false (by omega)
      have i2 : ¬ (k : Int) < nb := by omega
      have d2 : decide ((k : Int) < nb) = false := decide_eq_false i2
      obtain ⟨o, g1, g2, g3, g4⟩ := hS.out
      have HG := Lib.hid g1
      have hol : o.length ≤ 10000 := by omega
      have HE : Vb (o ++ [c]) = Vb la + Vb lb := by
        rw [List.take_of_length_le (by have := HN.out; omega), List.take_of_length_le (by have := HN.out; omega)] at g2
        rw [Vb_snoc, g3]; exact g2
      have HD := Lib.hid (And.intro HE (snoc_dig g4 (v := c) (by omega)))
      clear g1 g2 g3 g4 hC HE
      go_wp2_with (first
        | (refine wpList_append_gr (w0 := w) rfl (.tmp 48) (.tmp 50) 29 3 rfl ci _ Tryz.underlying29 hi1 hi2 rfl (noWB_int 0) hi3 (by rw [hi4]; omega) _ (ints o) rfl HG.out (.int .i64 c) rfl 3 rfl (by rw [ints_length]; omega) ?_; intro r w2 happ; have HP := Lib.hid happ; have HT := Lib.hid (spec_trim r (o ++ [c]) w2 (by have := happ.sl; rwa [ints_snoc] at this) HD.out.2 (by simp; omega)); clear happ))
      refine HT.out.mono ?_
      rintro e w3 ⟨r2, rfl, hr2, rfl⟩
      have HR := Lib.hid hr2
      clear hr2
      go_wp2_with fail
      go_ret
      exact ⟨_, rfl, by rw [← HD.out.1]; exact HR.out, HP.out.1⟩
/-- What the difference's loop keeps. -/
def SubSt (la lb : List Nat) (w wr : World) (ov : Value) (c k : Nat) : Prop :=
  ∃ o, Gr w wr ov (ints o) ∧ Vb o + Vb (lb.take k) = Vb (la.take k) + c * 65536 ^ k ∧ o.length = k ∧ ∀ d ∈ o, d < 65536
theorem SubSt.chg {la lb : List Nat} {w wr : World} {ov : Value} {c k : Nat} (h : SubSt la lb w wr ov c k) : Chg No w wr := by
  obtain ⟨o, h1, _⟩ := h
  exact h1.1
theorem SubSt.next {la lb : List Nat} {w wq : World} {r : Value} {c k x y m c' : Nat} (h : ∃ o, o.length = k ∧ (Vb o + Vb (lb.take k) = Vb (la.take k) + c * 65536 ^ k) ∧ (∀ d ∈ o, d < 65536) ∧ Gr w wq r (ints o ++ [.int .i64 m])) (hx : la.getD k 0 = x) (hy : lb.getD k 0 = y) (hm : m + y + c = x + 65536 * c') (hm2 : m < 65536) : SubSt la lb w wq r c' (k + 1) := by
  obtain ⟨o, h1, h2, h3, h4⟩ := h
  refine ⟨o ++ [m], by rw [← ints_snoc]; exact h4, ?_, by simp [h1], snoc_dig h3 hm2⟩
  exact sub_step h2 h1 (by rw [hx, hy]; exact hm)
set_option maxRecDepth 100000 in
set_option maxHeartbeats 4000000 in
theorem spec_Sub (x y : Value) (X Y n : Nat) (w : World) (hx : Sn w x X) (hy : Sn w y Y) (hX : X < 65536 ^ n) (hYX : Y ≤ X) (hn : n ≤ 10000) :
    Calls Tryz.prog 77 #[x, y] w (SnOut (X - Y) w) := by
  obtain ⟨ci, hi1, hi2, hi3, hi4⟩ := info_of info3
  have G0 := Lib.hid (Gr.start (Chg.refl No w) 3)
  obtain ⟨la, A, ca, rfl, hca, hra, rfl, hda, hta⟩ := hx.view
  obtain ⟨lb, B, cb, rfl, hcb, hrb, rfl, hdb, htb⟩ := hy.view
  have hla := Sn_len hta hX
  have hlb := Sn_len (n := la.length) htb (Nat.lt_of_le_of_lt hYX (Vb_lt hda))
  have HY := Lib.hid hYX
  clear hX hYX hx hy
  obtain ⟨na, ena⟩ : ∃ na, na = la.length := ⟨_, rfl⟩
  obtain ⟨nb, enb⟩ : ∃ nb, nb = lb.length := ⟨_, rfl⟩
  rw [← ena] at hla hca hlb ⊢
  rw [← enb] at hlb hcb ⊢
  have HN := Lib.hid (And.intro ena enb)
  have HA := Lib.hid hra
  have HB := Lib.hid hrb
  clear ena enb hra hrb hta htb
  go_enter Tryz.func77, Tryz.ntmps77
  go_wp2_with fail
  go_loopw [5, 6, 12] (fun ov cv iv wr => ∃ c k : Nat, cv = .int .i64 c ∧ iv = .int .i64 k ∧ c ≤ 1 ∧ k ≤ na ∧ Hid (SubSt la lb w wr ov c k)) (fun _ _ iv _ => na - (intOf iv).toNat)
  case atStart => exact ⟨0, 0, rfl, rfl, by omega, by omega, Lib.hid ⟨[], G0.out, by simp [Vb], rfl, by simp⟩⟩
  case round =>
    obtain ⟨c, k, rfl, rfl, hc, hk, hS⟩ := hrel
    have hC := hS.out.chg
    by_cases hkn : k < na
    · have i1 : (k : Int) < na := by omega
      obtain ⟨ad, rfl, c1⟩ := (HA.out.chg hC) k (by have := HN.out; omega)
      obtain ⟨u, hu⟩ : ∃ u, u = la.getD k 0 := ⟨_, rfl⟩
      have hu1 : u < 65536 := by rw [hu]; exact dig_lt hda k
      rw [← hu] at c1
      obtain ⟨t1, ht1⟩ : ∃ t1 : Int, t1 = (u : Int) - c := ⟨_, rfl⟩
      have e1 : (u : Int) - (c : Int) = t1 := ht1.symm
      have b1 : -1 ≤ t1 := by omega
      have b2 : t1 < 65536 := by omega
      obtain ⟨o, g1, g2, g3, g4⟩ := hS.out
      have HG := Lib.hid g1
      have HO := Lib.hid (And.intro g2 (And.intro g3 g4))
      have hol : o.length ≤ 10000 := by omega
      clear g1 g2 g3 g4 hS
      by_cases h2 : k < nb
      · have i2 : (k : Int) < nb := by omega
        have d2 : decide ((k : Int) < nb) = true := decide_eq_true i2
        obtain ⟨bd, rfl, c2⟩ := (HB.out.chg hC) k (by have := HN.out; omega)
        obtain ⟨v, hv⟩ : ∃ v, v = lb.getD k 0 := ⟨_, rfl⟩
        have hv1 : v < 65536 := by rw [hv]; exact dig_lt hdb k
        rw [← hv] at c2
        obtain ⟨t2, ht2⟩ : ∃ t2 : Int, t2 = t1 - v := ⟨_, rfl⟩
        have e2 : t1 - (v : Int) = t2 := ht2.symm
        have b3 : -70000 ≤ t2 := by omega
        have b4 : t2 < 65536 := by omega
        by_cases h5 : t2 < 0
        · obtain ⟨m, e3⟩ : ∃ m : Nat, t2 + 65536 = (m : Int) := ⟨(t2 + 65536).toNat, by omega⟩
          have i5 : t2 < 0 := by omega
          have d5 : decide (t2 < 0) = true := decide_eq_true i5
          have HM : Hid (m + v + c = u + 65536 * 1 ∧ m < 65536) := Lib.hid (by omega)
          have HU := Lib.hid (And.intro hu hv)
          clear hu hv hkn ht1 ht2
          go_wp2_with (refine wpList_append_gr (w0 := w) rfl (.tmp 34) (.tmp 36) 29 3 rfl ci _ Tryz.underlying29 hi1 hi2 rfl (noWB_int 0) hi3 (by rw [hi4]; omega) _ (ints o) rfl HG.out (.int .i64 m) rfl 3 rfl (by rw [ints_length]; omega) ?_; intro r w2 happ; have HP := Lib.hid happ; clear happ)
          go_roundw
          case rel => exact ⟨1, k + 1, rfl, by go_num, by omega, by omega, Lib.hid (SubSt.next (c := c) ⟨o, HO.out.2.1, HO.out.1, HO.out.2.2, HP.out⟩ HU.out.1.symm HU.out.2.symm HM.out.1 HM.out.2)⟩
          case measure => simp [intOf]; omega
        · obtain ⟨m, e3⟩ : ∃ m : Nat, t2 = (m : Int) := ⟨(t2).toNat, by omega⟩
          have i5 : ¬ (m : Int) < 0 := by omega
          subst e3
          have HM : Hid (m + v + c = u + 65536 * 0 ∧ m < 65536) := Lib.hid (by omega)
          have HU := Lib.hid (And.intro hu hv)
          clear hu hv hkn ht1 ht2
          go_wp2_with (refine wpList_append_gr (w0 := w) rfl (.tmp 34) (.tmp 36) 29 3 rfl ci _ Tryz.underlying29 hi1 hi2 rfl (noWB_int 0) hi3 (by rw [hi4]; omega) _ (ints o) rfl HG.out (.int .i64 m) rfl 3 rfl (by rw [ints_length]; omega) ?_; intro r w2 happ; have HP := Lib.hid happ; clear happ)
          go_roundw
          case rel => exact ⟨0, k + 1, rfl, by go_num, by omega, by omega, Lib.hid (SubSt.next (c := c) ⟨o, HO.out.2.1, HO.out.1, HO.out.2.2, HP.out⟩ HU.out.1.symm HU.out.2.symm HM.out.1 HM.out.2)⟩
          case measure => simp [intOf]; omega
      · have i2 : ¬ (k : Int) < nb := by omega
        have d2 : decide ((k : Int) < nb) = false := decide_eq_false i2
        obtain ⟨v, hv⟩ : ∃ v, v = lb.getD k 0 := ⟨_, rfl⟩
        obtain rfl : v = 0 := by rw [hv]; exact gd_ge (by have := HN.out; omega)
        by_cases h5 : t1 < 0
        · obtain ⟨m, e3⟩ : ∃ m : Nat, t1 + 65536 = (m : Int) := ⟨(t1 + 65536).toNat, by omega⟩
          have i5 : t1 < 0 := by omega
          have d5 : decide (t1 < 0) = true := decide_eq_true i5
          have HM : Hid (m + 0 + c = u + 65536 * 1 ∧ m < 65536) := Lib.hid (by omega)
          have HU := Lib.hid (And.intro hu hv)
          clear hu hv hkn ht1
          go_wp2_with (refine wpList_append_gr (w0 := w) rfl (.tmp 34) (.tmp 36) 29 3 rfl ci _ Tryz.underlying29 hi1 hi2 rfl (noWB_int 0) hi3 (by rw [hi4]; omega) _ (ints o) rfl HG.out (.int .i64 m) rfl 3 rfl (by rw [ints_length]; omega) ?_; intro r w2 happ; have HP := Lib.hid happ; clear happ)
          go_roundw
          case rel => exact ⟨1, k + 1, rfl, by go_num, by omega, by omega, Lib.hid (SubSt.next (c := c) ⟨o, HO.out.2.1, HO.out.1, HO.out.2.2, HP.out⟩ HU.out.1.symm HU.out.2.symm HM.out.1 HM.out.2)⟩
          case measure => simp [intOf]; omega
        · obtain ⟨m, e3⟩ : ∃ m : Nat, t1 = (m : Int) := ⟨(t1).toNat, by omega⟩
          have i5 : ¬ (m : Int) < 0 := by omega
          subst e3
          have HM : Hid (m + 0 + c = u + 65536 * 0 ∧ m < 65536) := Lib.hid (by omega)
          have HU := Lib.hid (And.intro hu hv)
          clear hu hv hkn ht1
          go_wp2_with (refine wpList_append_gr (w0 := w) rfl (.tmp 34) (.tmp 36) 29 3 rfl ci _ Tryz.underlying29 hi1 hi2 rfl (noWB_int 0) hi3 (by rw [hi4]; omega) _ (ints o) rfl HG.out (.int .i64 m) rfl 3 rfl (by rw [ints_length]; omega) ?_; intro r w2 happ; have HP := Lib.hid happ; clear happ)
          go_roundw
          case rel => exact ⟨0, k + 1, rfl, by go_num, by omega, by omega, Lib.hid (SubSt.next (c := c) ⟨o, HO.out.2.1, HO.out.1, HO.out.2.2, HP.out⟩ HU.out.1.symm HU.out.2.symm HM.out.1 HM.out.2)⟩
          case measure => simp [intOf]; omega
    · obtain rfl : k = na := by omega
      obtain ⟨o, g1, g2, g3, g4⟩ := hS.out
      have HG := Lib.hid g1
      have hol : o.length ≤ 10000 := by omega
      have HE : Vb o = Vb la - Vb lb := by
        rw [HN.out.1] at g2 g3
        exact sub_end g4 g3 (by have := HN.out; omega) HY.out g2
      have HD := Lib.hid HE
      have HT := Lib.hid (spec_trim _ o wr g1.sl g4 (by omega))
      clear g1 g2 g3 g4 hC HE
      go_wp2_with fail
      refine HT.out.mono ?_
      rintro e w3 ⟨r2, rfl, hr2, rfl⟩
      have HR := Lib.hid hr2
      clear hr2
      go_wp2_with fail
      go_ret
      exact ⟨_, rfl, by rw [← HD.out]; exact HR.out, HG.out.1⟩
/-- The quotient and the remainder by a digit. -/
def QrOut (X d : Nat) (w : World) (e : Ending) (w' : World) : Prop := ∃ r, e = .returned (.tuple #[r, .int .i64 (X % d : Nat)]) ∧ Sn w' r (X / d) ∧ Chg No w w'
set_option maxRecDepth 100000 in
set_option maxHeartbeats 4000000 in
theorem spec_byDigit (x : Value) (X n d : Nat) (w : World) (hx : Sn w x X) (hX : X < 65536 ^ n) (hn : n ≤ 10000) (hd0 : 0 < d) (hd : d < 65536) :
    Calls Tryz.prog 72 #[x, .int .i64 d] w (QrOut X d w) := by
  obtain ⟨ci, hi1, hi2, hi3, hi4⟩ := info_of info3
  obtain ⟨la, A, ca, rfl, hca, hra, rfl, hda, hta⟩ := hx.view
  have hla := Sn_len hta hX
  clear hX hx
  obtain ⟨na, ena⟩ : ∃ na, na = la.length := ⟨_, rfl⟩
  rw [← ena] at hla hca ⊢
  have HN := Lib.hid ena
  have HA := Lib.hid hra
  have ST := Lib.hid (div_start la hd0)
  rw [← ena] at ST
  clear ena hra hta
  go_enter Tryz.func72, Tryz.ntmps72
  go_wp2_with (refine wpList_makeI (w0 := w) rfl (.tmp 10) 29 rfl 3 ci Tryz.underlying29 hi1 hi2 hi3 (by rw [hi4]; omega) _ na rfl (by omega) (by omega) (Chg.refl _ _) ?_; intro w1 hob; have HO := Lib.hid hob; clear hob)
  go_loopw [7, 8] (fun rv iv wr => ∃ (rest j : Nat) (J : Int), rv = .int .i64 rest ∧ iv = .int .i64 J ∧ Hid (J = (j : Int) - 1) ∧ j ≤ na ∧ rest < d ∧ Hid (∃ o, Ob w wr w.heap.size o ∧ DivInv la d j rest o)) (fun _ iv _ => (intOf iv + 1).toNat)
  case atStart => exact ⟨0, na, (na : Int) - 1, rfl, by go_num, Lib.hid rfl, Nat.le_refl _, hd0, Lib.hid ⟨_, HO.out, ST.out⟩⟩
  case round =>
    obtain ⟨rest, j, J, rfl, rfl, hJ, hj, hr, hS⟩ := hrel
    rcases Nat.eq_zero_or_pos j with h0 | h0
    · obtain rfl : J = -1 := by have := hJ.out; omega
      subst h0
      obtain ⟨o, ho, hv⟩ := hS.out
      have hlen := hv.1
      have hol : o.length = na := by have := HN.out; omega
      have HO2 := Lib.hid ho
      have HE := Lib.hid (div_end hv)
      have HT := Lib.hid (spec_trim (.slice (some ⟨w.heap.size, 0, none⟩) na na) o wr (by have := ho.sl (c := na) (by omega); rwa [hol] at this) hv.2.2.2 (by omega))
      clear ho hv hlen hol hS
      go_wp2_with fail
      refine HT.out.mono ?_
      rintro e w3 ⟨r2, rfl, hr2, rfl⟩
      have HR := Lib.hid hr2
      clear hr2
      go_wp2_with fail
      go_ret2
      exact ⟨_, by rw [← HE.out.2]; rfl, by rw [← HE.out.1]; exact HR.out, HO2.out.chg⟩
    · obtain ⟨p, rfl⟩ : ∃ p, j = p + 1 := ⟨j - 1, by omega⟩
      obtain rfl : J = (p : Int) := by have := hJ.out; omega
      obtain ⟨o, ho, hv⟩ := hS.out
      obtain ⟨ad, rfl, c1⟩ := (HA.out.chg ho.chg) p (by have := HN.out; omega)
      obtain ⟨u, hu⟩ : ∃ u, u = la.getD p 0 := ⟨_, rfl⟩
      have hu1 : u < 65536 := by rw [hu]; exact dig_lt hda p
      rw [← hu] at c1
      have hpo : p < o.length := by have := hv.1; have := HN.out; omega
      have c2 := ho.cell p hpo
      have f2 := ho.free p
      have i1 : (p : Int) < na := by omega
      obtain ⟨t, ht⟩ : ∃ t, t = rest * 65536 + u := ⟨_, rfl⟩
      have htb : t < 4294967296 := by omega
      have e1 : (rest : Int) * 65536 + (u : Int) = (t : Int) := by omega
      obtain ⟨Q, hQ⟩ : ∃ Q, Q = t / d := ⟨_, rfl⟩
      obtain ⟨R, hR⟩ : ∃ R, R = t % d := ⟨_, rfl⟩
      have e2 : (t : Int) / (d : Int) = (Q : Int) := by rw [hQ]; exact (Int.natCast_ediv _ _).symm
      have e3 : (t : Int) % (d : Int) = (R : Int) := by rw [hR]; exact (Int.natCast_emod _ _).symm
      have i4 : ((d : Int) == 0) = false := beq_eq_false_iff_ne.2 (by omega)
      have hRd : R < d := by rw [hR]; exact Nat.mod_lt _ hd0
      have HQ := Lib.hid (And.intro hQ (And.intro hR (And.intro ht hu)))
      have HO2 := Lib.hid ho
      have HV := Lib.hid hv
      have hQl : Q < 65536 := by rw [hQ, ht]; exact div_fit hr hu1
      clear hQ hR ht hu ho hv hS
      go_wp2_with fail
      go_roundw
      case rel =>
        refine ⟨R, p, (p : Int) - 1, by rw [e3], by go_num, Lib.hid rfl, by omega, hRd, Lib.hid ⟨_, HO2.out.set Q hpo, ?_⟩⟩
        have h := div_step hda (by have := HN.out; omega) HV.out
        rw [← HQ.out.2.2.2, ← HQ.out.2.2.1, ← HQ.out.1, ← HQ.out.2.1] at h
        exact h
      case measure => simp [intOf]
set_option maxRecDepth 100000 in
set_option maxHeartbeats 4000000 in
theorem spec_Mul (x y : Value) (X Y n : Nat) (w : World) (hx : Sn w x X) (hy : Sn w y Y) (hX : X < 65536 ^ n) (hY : Y < 65536 ^ n) (hn : n ≤ 10000) :
    Calls Tryz.prog 34 #[x, y] w (SnOut (X * Y) w) := by
  obtain ⟨ci, hi1, hi2, hi3, hi4⟩ := info_of info3
  obtain ⟨la, A, ca, rfl, hca, hra, rfl, hda, hta⟩ := hx.view
  obtain ⟨lb, B, cb, rfl, hcb, hrb, rfl, hdb, htb⟩ := hy.view
  have hla := Sn_len hta hX
  have hlb := Sn_len htb hY
  clear hX hY hx hy
  obtain ⟨na, ena⟩ : ∃ na, na = la.length := ⟨_, rfl⟩
  obtain ⟨nb, enb⟩ : ∃ nb, nb = lb.length := ⟨_, rfl⟩
  rw [← ena] at hla hca ⊢
  rw [← enb] at hlb hcb ⊢
  have HN := Lib.hid (And.intro ena enb)
  have HA := Lib.hid hra
  have HB := Lib.hid hrb
  have ST := Lib.hid (mul_start la lb)
  rw [← ena, ← enb] at ST
  clear ena enb hra hrb hta htb
  obtain ⟨N, hN⟩ : ∃ N, N = na + nb := ⟨_, rfl⟩
  have eN : (na : Int) + (nb : Int) = (N : Int) := by omega
  rw [← hN] at ST
  have hNb : N ≤ 20000 := by omega
  have HNN := Lib.hid hN
  clear hN
  go_enter Tryz.func34, Tryz.ntmps34
  go_wp2_with (refine wpList_makeI (w0 := w) rfl (.tmp 15) 29 rfl 3 ci Tryz.underlying29 hi1 hi2 hi3 (by rw [hi4]; omega) _ N rfl (by omega) (by omega) (Chg.refl _ _) ?_; intro w1 hob; have HO := Lib.hid hob; clear hob)
  go_loopw [19] (fun iv wr => ∃ i : Nat, iv = .int .i64 i ∧ i ≤ na ∧ Hid (∃ o, Ob w wr w.heap.size o ∧ MulOut la lb i o)) (fun iv _ => na - (intOf iv).toNat)
  case atStart => exact ⟨0, rfl, by omega, Lib.hid ⟨_, HO.out, ST.out⟩⟩
  case round =>
    obtain ⟨i, rfl, hi, hS⟩ := hrel
    by_cases hin : i < na
    · obtain ⟨o, ho, hv⟩ := hS.out
      obtain ⟨ad, rfl, c1⟩ := (HA.out.chg ho.chg) i (by have := HN.out; omega)
      obtain ⟨u, hu⟩ : ∃ u, u = la.getD i 0 := ⟨_, rfl⟩
      have hu1 : u < 65536 := by rw [hu]; exact dig_lt hda i
      rw [← hu] at c1
      have i1 : (i : Int) < na := by omega
      have HI := Lib.hid (⟨_, ho, hv.inner⟩ : ∃ o, Ob w wr w.heap.size o ∧ MulInv la lb i 0 0 o)
      have HU := Lib.hid hu
      clear hu ho hv hS
      go_wp2_with fail
      go_loopw [8, 26] (fun cv kv wr => ∃ c k : Nat, cv = .int .i64 c ∧ kv = .int .i64 k ∧ k ≤ nb ∧ c < 65536 ∧ Hid (∃ o, Ob w wr w.heap.size o ∧ MulInv la lb i k c o)) (fun _ kv _ => nb - (intOf kv).toNat)
      case atStart => exact ⟨0, 0, rfl, rfl, by omega, by omega, HI⟩
      case round =>
        obtain ⟨c, k, rfl, rfl, hk, hc, hS⟩ := hrel
        obtain ⟨o, ho, hv⟩ := hS.out
        have hol : o.length = N := by have := hv.1; have := HN.out; have := HNN.out; omega
        by_cases hkn : k < nb
        · obtain ⟨bd, rfl, c2⟩ := (HB.out.chg ho.chg) k (by have := HN.out; omega)
          obtain ⟨v, hv'⟩ : ∃ v, v = lb.getD k 0 := ⟨_, rfl⟩
          have hv1 : v < 65536 := by rw [hv']; exact dig_lt hdb k
          rw [← hv'] at c2
          obtain ⟨ik, hik⟩ : ∃ ik, ik = i + k := ⟨_, rfl⟩
          have c3 := ho.cell ik (by have := HNN.out; omega)
          have f3 := ho.free ik
          obtain ⟨g, hg⟩ : ∃ g, g = o.getD ik 0 := ⟨_, rfl⟩
          have hg1 : g < 65536 := by rw [hg]; exact dig_lt hv.2.2.1 _
          rw [← hg] at c3
          obtain ⟨p, hp⟩ : ∃ p, p = u * v := ⟨_, rfl⟩
          have hfit := mul_fit hc hg1 hu1 hv1
          rw [← hp] at hfit
          have e1 : (u : Int) * (v : Int) = (p : Int) := by rw [hp]; exact (Int.natCast_mul _ _).symm
          have i2 : (k : Int) < nb := by omega
          have i3 : (i : Int) + (k : Int) = (ik : Int) := by omega
          have i4 : (ik : Int) < (N : Int) := by have := HNN.out; omega
          have HIK := Lib.hid (And.intro hik (show ik < o.length by have := HNN.out; omega))
          obtain ⟨s, hs⟩ : ∃ s, s = c + (g + p) := ⟨_, rfl⟩
          have e2 : (c : Int) + ((g : Int) + (p : Int)) = (s : Int) := by omega
          obtain ⟨m, hm⟩ : ∃ m, m = s % 65536 := ⟨_, rfl⟩
          obtain ⟨q, hq⟩ : ∃ q, q = s / 65536 := ⟨_, rfl⟩
          have e3 : (s : Int) % 65536 = (m : Int) := by omega
          have e4 : (s : Int) / 65536 = (q : Int) := by omega
          have hsb : s < 4294967296 := by omega
          have hpb : p < 4294967296 := by omega
          have hq1 : q < 65536 := by rw [hq, hs]; exact hfit.2
          have HH := Lib.hid (And.intro hp (And.intro hs (And.intro hm (And.intro hq (And.intro hv' hg)))))
          have HO2 := Lib.hid ho
          have HV := Lib.hid hv
          clear hik hp hs hm hq hv' hg ho hv hS hfit
          go_wp2_with fail
          go_roundw
          case rel =>
            refine ⟨q, k + 1, by first | rfl | rw [e4], by go_num, by omega, hq1, Lib.hid ⟨_, HO2.out.set m HIK.out.2, ?_⟩⟩
            have h := mul_step hdb hda (by have := HN.out; omega) (by have := HN.out; omega) HV.out
            rw [← HU.out, ← HH.out.2.2.2.2.1, ← HIK.out.1, ← HH.out.2.2.2.2.2, ← HH.out.1, ← HH.out.2.1, ← HH.out.2.2.1, ← HH.out.2.2.2.1] at h
            exact h
          case measure => simp [intOf]; omega
        · obtain rfl : k = nb := by omega
          obtain ⟨ik, hik⟩ : ∃ ik, ik = i + k := ⟨_, rfl⟩
          have c3 := ho.cell ik (by have := HNN.out; omega)
          have f3 := ho.free ik
          have i3 : (i : Int) + (k : Int) = (ik : Int) := by omega
          have i4 : (ik : Int) < (N : Int) := by have := HNN.out; omega
          have HIK := Lib.hid (And.intro hik (show ik < o.length by have := HNN.out; omega))
          have HO2 := Lib.hid ho
          have HV := Lib.hid hv
          clear hik ho hv hS
          go_wp2_with fail
          go_roundw
          case rel =>
            refine ⟨i + 1, by go_num, by omega, Lib.hid ⟨_, HO2.out.set c HIK.out.2, ?_⟩⟩
            have h := HV.out
            rw [HN.out.2] at h
            have h2 := mul_close (by have := HN.out; omega) h
            rw [← HN.out.2, ← HIK.out.1] at h2
            exact h2
          case measure => simp [intOf]; omega
    · obtain rfl : i = na := by omega
      obtain ⟨o, ho, hv⟩ := hS.out
      have hol : o.length = N := by have := hv.1; have := HN.out; have := HNN.out; omega
      have HO2 := Lib.hid ho
      have HE : Vb o = Vb la * Vb lb := by
        have := hv.2.1
        rwa [HN.out.1, List.take_length] at this
      have HE := Lib.hid HE
      have HT := Lib.hid (spec_trim (.slice (some ⟨w.heap.size, 0, none⟩) N N) o wr (by have := ho.sl (c := N) (by omega); rwa [hol] at this) hv.2.2.1 (by omega))
      clear ho hv hS hol
      go_wp2_with fail
      refine HT.out.mono ?_
      rintro e w3 ⟨r2, rfl, hr2, rfl⟩
      have HR := Lib.hid hr2
      clear hr2
      go_wp2_with fail
      go_ret
      exact ⟨_, rfl, by rw [← HE.out]; exact HR.out, HO2.out.chg⟩
def strLen : Value → Nat
  | .string b => b.size
  | _ => 0
theorem conv_one (W : World) (m : Nat) (hm : m < 256) : (convert 56 9 (.slice (some ⟨W.heap.size, 0, none⟩) 1 1)).run Tryz.prog (W.alloc (.cells #[.int .u8 (m : Nat)] 5)) = .ok (.string (txt [m])) (W.alloc (.cells #[.int .u8 (m : Nat)] 5)) := by
  refine run_convert_bytes_back (P := Tryz.prog) _ 56 9 5 ⟨W.heap.size, 0, none⟩ 1 ([m].map UInt8.ofNat) Tryz.underlying56 Tryz.underlying5 Tryz.underlying9 (fun j hj => ?_)
  obtain rfl : j = 0 := by simpa using hj
  rw [add0, World.cell?_alloc_new]
  have e2 : (UInt8.ofNat m).toNat = m := by simp [UInt8.toNat_ofNat']; omega
  simp [e2]
theorem minus_txt (n : Bool) (w : World) : Calls Tryz.prog 60 #[.bool n] w fun e w' => e = .returned (.string (txt (sgn n))) ∧ w = w' := by
  cases n
  · go_enter Tryz.func60, Tryz.ntmps60
    go_wp2_with fail
    go_ret
    exact ⟨rfl, rfl⟩
  · go_enter Tryz.func60, Tryz.ntmps60
    go_wp2_with fail
    go_ret
    exact ⟨rfl, rfl⟩
theorem pow_65536_10 (n : Nat) : 65536 ^ n ≤ 10 ^ (5 * n) := by
  rw [Nat.pow_mul]; exact Nat.pow_le_pow_left (by decide) n
theorem dg_len {X a n : Nat} {s : List Nat} (h : DgInv X a s) (ha : a ≠ 0) (hX : X < 65536 ^ n) : s.length < 5 * n := by
  have h1 : 1 * 10 ^ s.length ≤ a * 10 ^ s.length := Nat.mul_le_mul_right _ (by omega)
  have h2 := h.1
  have h3 := pow_65536_10 n
  have h4 : 10 ^ s.length < 10 ^ (5 * n) := by omega
  exact (Nat.pow_lt_pow_iff_right (by decide)).1 h4
set_option maxRecDepth 100000 in
set_option maxHeartbeats 2000000 in
theorem spec_Digits (x : Value) (X n : Nat) (w : World) (hx : Sn w x X) (hX : X < 65536 ^ n) (hn : n ≤ 1000) :
    Calls Tryz.prog 33 #[x] w fun e w' => ∃ D, FigLen X D 0 ∧ D ≤ 5 * n + 1 ∧ e = .returned (.string (txt (asc (digs X D)))) ∧ Chg No w w' := by
  by_cases hX0 : X = 0
  · obtain ⟨la, A, ca, rfl, hca, hra, hva, hda, hta⟩ := hx.view
    have hl : la.length = 0 := by
      rcases Nat.eq_zero_or_pos la.length with h | h
      · exact h
      · have := Vb_ge hta h
        have := Nat.pow_pos (n := la.length - 1) (show 0 < 65536 by decide)
        omega
    rw [hl]
    clear hra hda hta hx
    go_enter Tryz.func33, Tryz.ntmps33
    go_wp2_with fail
    go_ret
    refine ⟨1, by rw [hX0]; unfold FigLen; omega, by omega, ?_, Chg.refl _ _⟩
    rw [hX0]; rfl
  · have HX := Lib.hid hX0
    have ST := Lib.hid (dg_start hX0)
    have HS := Lib.hid hx
    have HB := Lib.hid hX
    obtain ⟨la, A, ca, rfl, hca, hra, hva, hda, hta⟩ := hx.view
    have hl : la.length ≠ 0 := by
      intro h
      have : la = [] := List.length_eq_zero_iff.1 h
      subst this
      exact hX0 (by rw [← hva]; rfl)
    have hln := Sn_len hta (by rw [hva]; exact hX)
    obtain ⟨na, ena⟩ : ∃ na, na = la.length := ⟨_, rfl⟩
    rw [← ena] at hl hca hln HS ⊢
    have i1 : ((na : Int) == 0) = false := beq_eq_false_iff_ne.2 (by omega)
    clear hX0 hra hda hta hx hX ena
    go_enter Tryz.func33, Tryz.ntmps33
    go_wp2_with fail
    go_loopw [0, 3] (fun av ov wr => ∃ (a : Nat) (s : List Nat) (b : ByteArray), ov = .string b ∧ Hid (b = txt (asc s)) ∧ Hid (Sn wr av a) ∧ Hid (DgInv X a s) ∧ Hid (Chg No w wr) ∧ a ≤ X ∧ b.size ≤ 5 * n ∧ s.length = b.size) (fun _ ov _ => 5 * n + 1 - strLen ov)
    case atStart => exact ⟨X, [], _, rfl, Lib.hid rfl, HS, ST, Lib.hid (Chg.refl _ _), Nat.le_refl _, Nat.zero_le _, rfl⟩
    case round =>
      obtain ⟨a, s, b, rfl, hb, hA, hD, hC, haX, hsz, hsl⟩ := hrel
      obtain ⟨la2, A2, ca2, rfl, hca2, hra2, hva2, hda2, hta2⟩ := hA.out.view
      obtain ⟨m2, em2⟩ : ∃ m2, m2 = la2.length := ⟨_, rfl⟩
      rw [← em2] at hA hca2 ⊢
      have hln2 : m2 ≤ n := by rw [em2]; exact Sn_len hta2 (by rw [hva2]; exact Nat.lt_of_le_of_lt haX HB.out)
      by_cases ha0 : a = 0
      · have hm0 : m2 = 0 := by
          rcases Nat.eq_zero_or_pos la2.length with h | h
          · omega
          · have := Vb_ge hta2 h
            have := Nat.pow_pos (n := la2.length - 1) (show 0 < 65536 by decide)
            omega
        have hend : FigLen X s.length 0 ∧ s = digs X s.length := dg_end (by have := hD.out; rwa [ha0] at this)
        have HE := Lib.hid hend
        obtain rfl : m2 = 0 := hm0
        clear hend hra2 hda2 hta2 hva2 em2
        go_wp2_with fail
        go_ret
        refine ⟨s.length, HE.out.1, by omega, ?_, hC.out⟩
        rw [← HE.out.2, ← hb.out]; rfl
      · have hm0 : 0 < m2 := by
          rcases Nat.eq_zero_or_pos m2 with h | h
          · exfalso
            have : la2 = [] := List.length_eq_zero_iff.1 (by omega)
            subst this
            exact ha0 (by rw [← hva2]; rfl)
          · exact h
        have i2 : (0 : Int) < m2 := by omega
        have hlt := Lib.hid (dg_len hD.out ha0 HB.out)
        have H1 := Lib.hid (spec_byDigit _ a n 10 wr hA.out (Nat.lt_of_le_of_lt haX HB.out) (by omega) (by decide) (by decide))
        have HA0 := Lib.hid ha0
        obtain ⟨d, hd⟩ : ∃ d, d = a % 10 := ⟨_, rfl⟩
        have hd10 : d < 10 := by omega
        obtain ⟨m, hm⟩ : ∃ m, m = 48 + d := ⟨_, rfl⟩
        have e1 : (48 : Int) + (d : Int) = (m : Int) := by omega
        have e2 : IntKind.u8.wrap (m : Int) = (m : Int) := IntWalk.u8_in _ (by omega)
        have hm2 : m < 256 := by omega
        have HM := Lib.hid (And.intro hd hm)
        clear hra2 hda2 hta2 hva2 em2 hm
        go_wp2_with fail
        refine H1.out.mono ?_
        rintro e w1 ⟨r, rfl, hr, hc1⟩
        have HR := Lib.hid hr
        have HC1 := Lib.hid (hC.out.then hc1 (fun _ _ _ f => f))
        rw [← hd]
        have hcv := conv_one w1 m hm2
        clear hr hc1 hd
        go_wp2_with fail
        · rename_i hbig
          exfalso
          rw [txt_size] at hbig
          have h := hlt.out
          simp at hbig
          omega
        go_roundw
        case rel =>
          refine ⟨a / 10, d :: s, txt [m] ++ b, rfl, Lib.hid ?_, Lib.hid (HR.out.chg ((Chg.refl No w1).alloc _)), Lib.hid ?_, Lib.hid (HC1.out.alloc _), ?_, ?_, ?_⟩
          · rw [hb.out, txt_append, HM.out.2]; rfl
          · have h := dg_step HA0.out hD.out
            rw [← HM.out.1] at h; exact h
          · exact Nat.le_trans (Nat.div_le_self _ _) haX
          · rw [ByteArray.size_append, txt_size]; have := hlt.out; simp; omega
          · rw [ByteArray.size_append, txt_size]; simp; omega
        case measure => simp only [strLen]; rw [ByteArray.size_append, txt_size]; have := hlt.out; simp; omega
set_option maxRecDepth 100000 in
set_option maxHeartbeats 2000000 in
theorem spec_Power (b k : Nat) (w : World) (hb0 : 0 < b) (hb : b < 65536) (hk : k ≤ 2000) :
    Calls Tryz.prog 35 #[.int .i64 b, .int .i64 k] w (SnOut (b ^ k) w) := by
  have H1 := Lib.hid (spec_Small 1 w (by decide))
  go_enter Tryz.func35, Tryz.ntmps35
  go_wp2_with fail
  refine H1.out.mono ?_
  rintro e w1 ⟨r1, rfl, hr1, hc1⟩
  have HR := Lib.hid hr1
  have HC := Lib.hid hc1
  clear hr1 hc1
  go_wp2_with fail
  go_loopw [1, 5] (fun nv ov wr => ∃ j : Nat, nv = .int .i64 j ∧ j ≤ k ∧ Hid (Sn wr ov (b ^ (k - j))) ∧ Hid (Chg No w wr)) (fun nv _ _ => (intOf nv).toNat)
  case atStart => exact ⟨k, rfl, Nat.le_refl _, by simpa using HR, HC⟩
  case round =>
    obtain ⟨j, rfl, hj, hS, hC⟩ := hrel
    rcases Nat.eq_zero_or_pos j with h0 | h0
    · subst h0
      go_wp2_with fail
      go_ret
      exact ⟨_, rfl, hS.out, hC.out⟩
    · have i1 : (0 : Int) < j := by omega
      have H2 := Lib.hid (spec_Small b wr (by omega))
      go_wp2_with fail
      refine H2.out.mono ?_
      rintro e w2 ⟨r2, rfl, hr2, hc2⟩
      have hbk : ∀ i, b ^ i < 65536 ^ (i + 1) := fun i => Nat.lt_of_le_of_lt (Nat.pow_le_pow_left (by omega) i) (Nat.pow_lt_pow_right (by decide) (by omega))
      have H3 := Lib.hid (spec_Mul _ r2 (b ^ (k - j)) b (k - j + 1) w2 (hS.out.chg hc2) hr2 (hbk _) (Nat.lt_of_lt_of_le hb (by rw [Nat.pow_succ]; exact Nat.le_mul_of_pos_left _ (Nat.pow_pos (by decide)))) (by omega))
      have HC2 := Lib.hid (hC.out.then hc2 (fun _ _ _ f => f))
      clear hr2 hc2 hbk
      go_wp2_with fail
      refine H3.out.mono ?_
      rintro e w3 ⟨r3, rfl, hr3, hc3⟩
      have HR3 := Lib.hid hr3
      have HC3 := Lib.hid (HC2.out.then hc3 (fun _ _ _ f => f))
      clear hr3 hc3
      go_wp2_with fail
      go_roundw
      case rel =>
        refine ⟨j - 1, by go_num, by omega, Lib.hid ?_, HC3⟩
        have := HR3.out
        rw [show k - (j - 1) = k - j + 1 by omega, Nat.pow_succ]; exact this
      case measure => simp [intOf]; omega
/-- Quotient and remainder. -/
def DmOut (X Y : Nat) (w : World) (e : Ending) (w' : World) : Prop := ∃ q r, e = .returned (.tuple #[q, r]) ∧ Sn w' q (X / Y) ∧ Sn w' r (X % Y) ∧ Chg No w w'
theorem long_start0 {A B : Nat} (hB : B ≠ 0) {j : Nat} (hj : (j : Int) = max ((blen A : Int) - (blen B : Int) + 1) 0) : LongInv A B j 0 A := by
  by_cases hA : A = 0
  · subst hA
    exact ⟨by simp, Nat.mul_pos (by omega) (Nat.two_pow_pos _)⟩
  · exact long_start hA hB hj
theorem long_size {A B n p : Nat} (hA : A < 65536 ^ n) (hp : (p : Int) < max ((blen A : Int) - (blen B : Int) + 1) 0) : B * 2 ^ p < 65536 ^ n := by
  rw [show (65536 : Nat) = 2 ^ 16 by decide, ← Nat.pow_mul] at hA ⊢
  by_cases hB : B = 0
  · subst hB; rw [Nat.zero_mul]; exact Nat.two_pow_pos _
  obtain ⟨b1, b2, b3⟩ := blen_spec hB
  have hA0 : A ≠ 0 := by
    rintro rfl
    rw [show blen 0 = 0 from rfl] at hp
    omega
  have h1 := blen_le hA0 hA
  have h2 : B * 2 ^ p < 2 ^ blen B * 2 ^ p := Nat.mul_lt_mul_of_pos_right b3 (Nat.two_pow_pos p)
  rw [← Nat.pow_add] at h2
  have h3 : 2 ^ (blen B + p) ≤ 2 ^ (16 * n) := Nat.pow_le_pow_right (by decide) (by clear b2 b3 h2; omega)
  omega
theorem cmp3_le {x y : Nat} (h : x ≤ y) : cmp3 x y ≤ 0 := by
  unfold cmp3; split
  · omega
  · rw [if_neg (by omega)]; omega
theorem cmp3_nle {x y : Nat} (h : ¬ x ≤ y) : ¬ cmp3 x y ≤ 0 := by
  rw [cmp3_gt (by omega)]; omega
theorem Sn.nil (w : World) (A : Option Addr) (c : Nat) : Sn w (.slice A 0 c) 0 := ⟨[], ⟨A, c, rfl, by simp [ints], fun i hi => absurd hi (by simp [ints])⟩, rfl, by simp, .inl rfl⟩
theorem LongInv.q_le {A B j q a : Nat} (hB : B ≠ 0) (h : LongInv A B j q a) : q ≤ A ∧ a ≤ A := by
  have h1 : q * 1 ≤ q * B := Nat.mul_le_mul_left _ (by omega)
  have := h.1
  omega
set_option maxRecDepth 100000 in
set_option maxHeartbeats 4000000 in
theorem spec_DivMod (x y : Value) (X Y n : Nat) (w : World) (hx : Sn w x X) (hy : Sn w y Y) (hX : X < 65536 ^ n) (hY : Y < 65536 ^ n) (hY0 : Y ≠ 0) (hn : n ≤ 1000) :
    Calls Tryz.prog 39 #[x, y] w (DmOut X Y w) := by
  have HSX := Lib.hid hx
  have HSY := Lib.hid hy
  obtain ⟨lb, B, cb, rfl, hcb, hrb, hvb, hdb, htb⟩ := hy.view
  obtain ⟨la, A, ca, rfl, hca, hra, hva, hda, hta⟩ := hx.view
  have hla := Sn_len hta (by rw [hva]; exact hX)
  have hlb := Sn_len htb (by rw [hvb]; exact hY)
  obtain ⟨nb, enb⟩ : ∃ nb, nb = lb.length := ⟨_, rfl⟩
  obtain ⟨na, ena⟩ : ∃ na, na = la.length := ⟨_, rfl⟩
  rw [← enb] at hlb hcb HSY ⊢
  rw [← ena] at hla hca HSX ⊢
  have HN := Lib.hid (And.intro ena enb)
  by_cases h1 : nb = 1
  · subst h1
    obtain ⟨bd, rfl, c1⟩ := hrb 0 (by omega)
    obtain ⟨d, hd⟩ : ∃ d, d = lb.getD 0 0 := ⟨_, rfl⟩
    rw [← hd] at c1
    have c1 : w.cell? bd = some (.int .i64 (d : Nat)) := by rw [Addr.add_zero'] at c1; exact c1
    have hdY : d = Y := by
      obtain ⟨e, rfl⟩ : ∃ e, lb = [e] := by
        match lb, enb with
        | [e], _ => exact ⟨e, rfl⟩
      rw [← hvb, hd]; simp [Vb]
    subst hdY
    have hdl : d < 65536 := by rw [hd]; exact dig_lt hdb 0
    have H1 := Lib.hid (spec_byDigit _ X n d w HSX.out hX (by omega) (by omega) hdl)
    clear hd ena enb hra hrb hta htb hda hdb hva hvb hx hy hX
    go_enter Tryz.func39, Tryz.ntmps39
    go_wp2_with fail
    refine H1.out.mono ?_
    rintro e w1 ⟨r, rfl, hr, hc1⟩
    have HR := Lib.hid hr
    have HC := Lib.hid hc1
    have hmod : X % d < 65536 := Nat.lt_trans (Nat.mod_lt _ (by omega)) hdl
    obtain ⟨m, hm⟩ : ∃ m, m = X % d := ⟨_, rfl⟩
    have HM := Lib.hid hm
    rw [← hm] at hmod ⊢
    have H2 := Lib.hid (spec_Small m w1 (by omega))
    clear hr hc1 hm
    go_wp2_with fail
    refine H2.out.mono ?_
    rintro e w2 ⟨r2, rfl, hr2, hc2⟩
    have HR2 := Lib.hid hr2
    have HC2 := Lib.hid hc2
    clear hr2 hc2
    go_wp2_with fail
    go_ret2
    exact ⟨_, _, rfl, HR.out.chg HC2.out, by rw [← HM.out]; exact HR2.out, HC.out.then HC2.out (fun _ _ _ f => f)⟩
  · have i1 : ((nb : Int) == 1) = false := beq_eq_false_iff_ne.2 (by omega)
    obtain ⟨lA, hlA⟩ : ∃ lA, lA = blen X := ⟨_, rfl⟩
    obtain ⟨lB, hlB⟩ : ∃ lB, lB = blen Y := ⟨_, rfl⟩
    obtain ⟨J0, hJ0⟩ : ∃ J0 : Int, J0 = (lA : Int) - lB := ⟨_, rfl⟩
    have eJ0 : (lA : Int) - (lB : Int) = J0 := hJ0.symm
    have hlA1 : lA ≤ 16000 := by
      rw [hlA]
      by_cases h0 : X = 0
      · subst h0; rw [show blen 0 = 0 from rfl]; omega
      · have := blen_le (P := 16 * n) h0 (by rw [Nat.pow_mul]; exact hX)
        omega
    have hlB1 : lB ≤ 16000 := by
      rw [hlB]
      have := blen_le (P := 16 * n) hY0 (by rw [Nat.pow_mul]; exact hY)
      omega
    obtain ⟨j0, hj0⟩ : ∃ j0 : Nat, (j0 : Int) = max (J0 + 1) 0 := ⟨(max (J0 + 1) 0).toNat, by omega⟩
    have hST := Lib.hid (long_start0 (A := X) hY0 (j := j0) (by rw [← hlA, ← hlB, eJ0]; exact hj0))
    have hSZ := Lib.hid (fun p (hp : p < j0) => long_size (A := X) (B := Y) (p := p) hX (by rw [← hlA, ← hlB, eJ0]; omega))
    have HJ : Hid (J0 = (j0 : Int) - 1 ∨ (j0 = 0 ∧ J0 < 0)) := Lib.hid (by omega)
    have hj1 : j0 ≤ 16001 := by omega
    have hJ1 : J0 < 20000 := by omega
    have hJ2 : -20000 < J0 := by omega
    have H1 := Lib.hid (spec_Len _ X n ((w.alloc (.cells #[] 3))) (HSX.out.chg ((Chg.refl No w).alloc _)) hX (by omega))
    have H2 := Lib.hid (spec_Len _ Y n ((w.alloc (.cells #[] 3))) (HSY.out.chg ((Chg.refl No w).alloc _)) hY (by omega))
    rw [← hlA] at H1
    rw [← hlB] at H2
    have HC0 := Lib.hid ((Chg.refl No w).alloc (.cells #[] 3))
    have HXB := Lib.hid (And.intro hX hY0)
    clear hlA hlB hJ0 hj0 enb ena hra hrb hta htb hda hdb hva hvb hx hy hX hY hY0
    go_enter Tryz.func39, Tryz.ntmps39
    go_wp2_with fail
    refine H1.out.mono ?_
    rintro e w1 ⟨rfl, rfl⟩
    go_wp2_with fail
    refine H2.out.mono ?_
    rintro e w1 ⟨rfl, rfl⟩
    go_wp2_with fail
    go_loopw [0, 8, 9] (fun av qv iv wr => ∃ (a q j : Nat) (J : Int), iv = .int .i64 J ∧ Hid (J = (j : Int) - 1 ∨ (j = 0 ∧ J < 0)) ∧ j ≤ j0 ∧ J < 20000 ∧ -20000 < J ∧ Hid (Sn wr av a) ∧ Hid (Sn wr qv q) ∧ Hid (LongInv X Y j q a) ∧ Hid (Chg No w wr)) (fun _ _ iv _ => (intOf iv + 1).toNat)
    case atStart => exact ⟨X, 0, j0, J0, by rfl, HJ, Nat.le_refl _, hJ1, hJ2, Lib.hid (HSX.out.chg HC0.out), Lib.hid (Sn.nil _ _ _), hST, HC0⟩
    case round =>
      obtain ⟨a, q, j, J, rfl, hJ, hj, hJ3, hJ4, hA, hQ, hL, hC⟩ := hrel
      rcases Nat.eq_zero_or_pos j with h0 | h0
      · have i2 : ¬ (0 : Int) ≤ J := by have := hJ.out; omega
        subst h0
        have HE := Lib.hid (long_end hL.out)
        go_wp2_with fail
        go_ret2
        exact ⟨_, _, rfl, by rw [← HE.out.1]; exact hQ.out, by rw [← HE.out.2]; exact hA.out, hC.out⟩
      · obtain ⟨p, rfl⟩ : ∃ p, j = p + 1 := ⟨j - 1, by omega⟩
        obtain rfl : J = (p : Int) := by have := hJ.out; omega
        have hsz := hSZ.out p hj
        have H3 := Lib.hid (spec_Shl _ Y n p wr (HSY.out.chg hC.out) (Nat.lt_of_le_of_lt (Nat.le_mul_of_pos_right _ (Nat.two_pow_pos p)) hsz) (by omega) (by omega))
        have HZ := Lib.hid hsz
        have HB := Lib.hid (hL.out.q_le HXB.out.2)
        clear hsz
        go_wp2_with fail
        refine H3.out.mono ?_
        rintro e w3 ⟨d, rfl, hd, hc3⟩
        have HD := Lib.hid hd
        have HC3 := Lib.hid (hC.out.then hc3 (fun _ _ _ f => f))
        have HA3 := Lib.hid (hA.out.chg hc3)
        have HQ3 := Lib.hid (hQ.out.chg hc3)
        have H4 := Lib.hid (spec_Cmp d _ (Y * 2 ^ p) a n w3 hd (hA.out.chg hc3) HZ.out (Nat.lt_of_le_of_lt HB.out.2 HXB.out.1) (by omega))
        clear hd hc3
        by_cases hle : Y * 2 ^ p ≤ a
        · obtain ⟨c, hc⟩ : ∃ c, c = cmp3 (Y * 2 ^ p) a := ⟨_, rfl⟩
          have i3 : c ≤ 0 := by rw [hc]; exact cmp3_le hle
          have HLE := Lib.hid hle
          rw [← hc] at H4
          clear hle hc
          go_wp2_with fail
          refine H4.out.mono ?_
          rintro e w4 ⟨rfl, hc4⟩
          have H5 := Lib.hid (spec_Sub _ d a (Y * 2 ^ p) n w4 (HA3.out.chg hc4) (HD.out.chg hc4) (Nat.lt_of_le_of_lt HB.out.2 HXB.out.1) HLE.out (by omega))
          have HC4 := Lib.hid (HC3.out.then hc4 (fun _ _ _ f => f))
          have HQ4 := Lib.hid (HQ3.out.chg hc4)
          clear hc4
          go_wp2_with fail
          refine H5.out.mono ?_
          rintro e w5 ⟨a2, rfl, ha2, hc5⟩
          have HA5 := Lib.hid ha2
          have HC5 := Lib.hid (HC4.out.then hc5 (fun _ _ _ f => f))
          have HQ5 := Lib.hid (HQ4.out.chg hc5)
          have H6 := Lib.hid (spec_Bit p w5 (by omega))
          clear ha2 hc5
          go_wp2_with fail
          refine H6.out.mono ?_
          rintro e w6 ⟨bt, rfl, hbt, hc6⟩
          have HA6 := Lib.hid (HA5.out.chg hc6)
          have HC6 := Lib.hid (HC5.out.then hc6 (fun _ _ _ f => f))
          have H7 := Lib.hid (spec_Add _ bt q (2 ^ p) n w6 (HQ5.out.chg hc6) hbt (Nat.lt_of_le_of_lt HB.out.1 HXB.out.1) (Nat.lt_of_le_of_lt (Nat.le_mul_of_pos_left _ (Nat.pos_of_ne_zero HXB.out.2)) HZ.out) (by omega))
          clear hbt hc6
          go_wp2_with fail
          refine H7.out.mono ?_
          rintro e w7 ⟨q2, rfl, hq2, hc7⟩
          have HA7 := Lib.hid (HA6.out.chg hc7)
          have HC7 := Lib.hid (HC6.out.then hc7 (fun _ _ _ f => f))
          have HQ7 := Lib.hid hq2
          clear hq2 hc7
          go_wp2_with fail
          go_roundw
          case rel => exact ⟨_, _, p, (p : Int) - 1, by go_num, Lib.hid (.inl rfl), by omega, by omega, by omega, HA7, HQ7, Lib.hid (long_yes hL.out HLE.out), HC7⟩
          case measure => simp [intOf]
        · obtain ⟨c, hc⟩ : ∃ c, c = cmp3 (Y * 2 ^ p) a := ⟨_, rfl⟩
          have i3 : ¬ c ≤ 0 := by rw [hc]; exact cmp3_nle hle
          have HLE := Lib.hid hle
          rw [← hc] at H4
          clear hle hc
          go_wp2_with fail
          refine H4.out.mono ?_
          rintro e w4 ⟨rfl, hc4⟩
          have HC4 := Lib.hid (HC3.out.then hc4 (fun _ _ _ f => f))
          have HQ4 := Lib.hid (HQ3.out.chg hc4)
          have HA4 := Lib.hid (HA3.out.chg hc4)
          clear hc4
          go_wp2_with fail
          go_roundw
          case rel => exact ⟨_, _, p, (p : Int) - 1, by go_num, Lib.hid (.inl rfl), by omega, by omega, by omega, HA4, HQ4, Lib.hid (long_no hL.out HLE.out), HC4⟩
          case measure => simp [intOf]
def PtInv (X k L : Nat) : Prop := X < 10 ^ L ∧ 0 < L ∧ (FigLen X L 0 ∨ L ≤ k + 1)
theorem pt_step {X k L : Nat} (h : PtInv X k L) (hL : L ≤ k) : PtInv X k (L + 1) :=
  ⟨Nat.lt_of_lt_of_le h.1 (Nat.pow_le_pow_right (by decide) (by omega)), by omega, .inr (by omega)⟩
theorem pt_end {X k L : Nat} (h : PtInv X k L) (hL : k < L) : FigLen X L k := by
  rcases h.2.2 with h1 | h1
  · exact figLen_wide h1 hL
  · exact ⟨h.1, hL, .inl (by omega)⟩
theorem ptext_length (T D k : Nat) (h : k < D) : (ptext T D k).length ≤ D + 1 := by
  unfold ptext
  rw [List.length_append]
  have h1 : (asc ((digs T D).take (D - k))).length = D - k := by simp [asc, digs_length]
  have h2 : (asc ((digs T D).drop (D - k))).length = k := by simp [asc, digs_length]; omega
  rw [h1]
  split
  · rw [List.length_cons, h2]; omega
  · simp; omega
set_option maxRecDepth 100000 in
set_option maxHeartbeats 2000000 in
theorem spec_Pointed (x : Value) (X n k : Nat) (w : World) (hx : Sn w x X) (hX : X < 65536 ^ n) (hn : n ≤ 1000) (hk : k ≤ 100) :
    Calls Tryz.prog 61 #[x, .int .i64 k] w fun e w' => ∃ D, FigLen X D k ∧ D ≤ 5200 ∧ e = .returned (.string (txt (ptext X D k))) ∧ Chg No w w' := by
  have H1 := Lib.hid (spec_Digits x X n w hx hX hn)
  clear hx hX
  go_enter Tryz.func61, Tryz.ntmps61
  go_wp2_with fail
  refine H1.out.mono ?_
  rintro e w1 ⟨D, hD, hD5, rfl, hc1⟩
  obtain ⟨b0, hb0⟩ : ∃ b0, b0 = txt (asc (digs X D)) := ⟨_, rfl⟩
  rw [← hb0]
  have hs0 : b0.size = D := by rw [hb0, txt_size]; simp [asc, digs_length]
  have HB := Lib.hid hb0
  have HD := Lib.hid hD
  have HC := Lib.hid hc1
  clear hb0 hD hc1
  go_wp2_with fail
  go_loopw [5] (fun sv wr => ∃ (b : ByteArray) (L : Nat), sv = .string b ∧ b.size = L ∧ L ≤ 5200 ∧ Hid (b = txt (asc (digs X L))) ∧ Hid (PtInv X k L) ∧ Hid (Chg No w wr)) (fun sv _ => k + 1 - strLen sv)
  case atStart => exact ⟨b0, D, rfl, hs0, by omega, HB, Lib.hid ⟨HD.out.1, HD.out.2.1, .inl HD.out⟩, HC⟩
  case round =>
    obtain ⟨b, L, rfl, hL, hL5, hb, hP, hC⟩ := hrel
    by_cases hLk : L ≤ k
    · have i1 : (L : Int) ≤ k := by omega
      go_wp2_with fail
      go_roundw
      case rel =>
        refine ⟨txt [48] ++ b, L + 1, rfl, ?_, by omega, Lib.hid ?_, Lib.hid (pt_step hP.out hLk), hC⟩
        · rw [ByteArray.size_append, txt_size]; simp; omega
        · rw [hb.out, txt_append, ← digs_zero hP.out.1]; rfl
      case measure =>
        have e : strLen (Value.string ({ data := #[48] } ++ b)) = L + 1 := by
          show (txt [48] ++ b).size = L + 1
          rw [ByteArray.size_append, txt_size]; simp; omega
        rw [e]; simp only [strLen]; omega
    · have i1 : ¬ (L : Int) ≤ k := by omega
      have i1n : ¬ L ≤ k := hLk
      by_cases hk0 : k = 0
      · subst hk0
        go_wp2_with fail
        go_ret
        refine ⟨L, pt_end hP.out (by omega), hL5, ?_, hC.out⟩
        unfold ptext
        rw [show ((digs X L).take (L - 0)) = digs X L by rw [List.take_of_length_le (by rw [digs_length]; omega)], if_neg (by decide), List.append_nil, ← hb.out]
        rfl
      · have i2 : ((k : Int) == 0) = false := beq_eq_false_iff_ne.2 (by omega)
        have i3 : (0 : Int) ≤ (L : Int) - k := by omega
        have i4 : (L : Int) - k ≤ L := by omega
        go_wp2_with fail
        go_quiet (fail)
        go_wp2_with fail
        go_ret
        refine ⟨L, pt_end hP.out (by omega), hL5, ?_, hC.out.drewN _⟩
        have e1 : b.extract 0 (L - k) ++ { data := #[46] } ++ b.extract (L - k) L = txt (ptext X L k) := by
          rw [hb.out, txt_extract, txt_extract, show ({ data := #[46] } : ByteArray) = txt [46] from rfl, txt_append, txt_append]
          congr 1
          unfold ptext
          have hlen : (asc (digs X L)).length = L := by simp [asc, digs_length]
          rw [if_pos (by omega), List.drop_zero, List.take_of_length_le (l := asc (digs X L)) (i := L) (by omega), List.append_assoc]
          simp [asc, List.map_take, List.map_drop]
        rw [← e1]; rfl
theorem Sn.slc {w : World} {v : Value} {X : Nat} (h : Sn w v X) : ∃ A n c, v = .slice A n c := by
  obtain ⟨l, A, c, e, _⟩ := h.view
  exact ⟨_, _, _, e⟩
set_option maxRecDepth 100000 in
set_option maxHeartbeats 1000000 in
theorem zzFits1 (P : Nat) (M F : Int) (n : Bool) (A : Option Addr) (k c : Nat) (E : Int) (w : World) (hk : k ≤ 2147483647) :
    Calls Tryz.prog 18 #[.agg #[.int .u64 P, .int .i64 M, .int .i64 F, .bool n, .slice A k c, .int .i64 E]] w fun e w' => e = .returned (.bool true) ∧ Chg No w w' := by
  have d1 : decide (2147483647 < (k : Int)) = false := decide_eq_false (by omega)
  have d2 : decide (2147483647 < k) = false := decide_eq_false (by omega)
  clear hk
  go_enter Tryz.func18, Tryz.ntmps18
  go_wp2_with fail
  go_ret
  exact ⟨rfl, (Chg.refl No w).alloc _⟩
/-- Cells of a block that one writes; no word or byte. -/
theorem three_new (w : World) (b : Nat) (u0 u1 u2 v0 v1 v2 : Value) (h0 : w.cell? ⟨b, 0, none⟩ = some u0) (h1 : w.cell? ⟨b, 1, none⟩ = some u1) (h2 : w.cell? ⟨b, 2, none⟩ = some u2) (a0 : ∀ n, u0 ≠ .int .u64 n) (a1 : ∀ n, u1 ≠ .int .u64 n) (a2 : ∀ n, u2 ≠ .int .u64 n) (b0 : ∀ n, u0 ≠ .int .u8 n) (b1 : ∀ n, u1 ≠ .int .u8 n) (b2 : ∀ n, u2 ≠ .int .u8 n) :
    Chg (fun x _ => x = b) w (((w.setCell ⟨b, 0, none⟩ v0).setCell ⟨b, 1, none⟩ v1).setCell ⟨b, 2, none⟩ v2) := by
  have k0 := (Chg.refl (fun x _ => x = b) w).setO v0 h0 a0 b0 (fun _ => rfl)
  have k1 := k0.setO (u := u1) v1 ((cell_setCell_ne _ _ _ _ _ _ (.inr (by decide))).trans h1) a1 b1 (fun _ => rfl)
  exact k1.setO (u := u2) v2 ((cell_setCell_ne _ _ _ _ _ _ (.inr (by decide))).trans ((cell_setCell_ne _ _ _ _ _ _ (.inr (by decide))).trans h2)) a2 b2 (fun _ => rfl)
theorem Sl.chgB {S : Nat → Nat → Prop} {w w' : World} {v : Value} {vs : List Value} (h : Sl w v vs) (hc : Chg S w w') (hd : ∀ (ad : Addr) (n c : Nat), v = .slice (some ad) n c → n = 0 ∨ ∀ o, ¬ S ad.block o) : Sl w' v vs := by
  obtain ⟨A, c, e, hle, h⟩ := h
  refine ⟨A, c, e, hle, fun i hi => ?_⟩
  obtain ⟨ad, e2, hh⟩ := h i hi
  refine ⟨ad, e2, ?_⟩
  have hb : (ad.add i).block = ad.block := by unfold Addr.add; split <;> rfl
  have hlt := World.block_lt_of_cell? _ _ hh
  have hd' : ∀ o, ¬ S ad.block o := (hd ad _ c (by rw [e, e2])).resolve_left (by omega)
  exact (cell_of_block (hc.block _ hlt (fun o f => hd' o (hb ▸ f)))).trans hh
theorem load47 (W : World) (b : Nat) (v0 v1 v2 : Value) (c0 : W.cell? ⟨b, 0, none⟩ = some v0) (c1 : W.cell? ⟨b, 1, none⟩ = some v1) (c2 : W.cell? ⟨b, 2, none⟩ = some v2) : (loadVar 47 ⟨b, 0, none⟩).run Tryz.prog W = .ok (.agg #[v0, v1, v2]) W := by
  have h1 := Tryz.isAgg47
  have h2 := Tryz.sizeOf47
  go_simp
set_option maxRecDepth 100000 in
set_option maxHeartbeats 1000000 in
theorem spec_OfReal (P : Nat) (M : Int) (n : Bool) (A : Option Addr) (c : Nat) (l : List Nat) (E : Int) (w : World) (hr : RdU w A l) (hl : l.length ≤ 1000) (hm : ∀ x ∈ l, x < WB) (hc : l.length ≤ c) :
    Calls Tryz.prog 20 #[.agg #[.int .u64 P, .int .i64 M, .int .i64 1, .bool n, .slice A l.length c, .int .i64 E]] w fun e w' => ∃ r, e = .returned (.agg #[.bool n, r, .int .i64 E]) ∧ Sn w' r (Vl l) ∧ Chg No w w' := by
  have HW : Hid (∀ W, W = (w.alloc (.cells #[.int .u64 P, .int .i64 M, .int .i64 1, .bool n, .slice A l.length c, .int .i64 E] 43)).alloc (.cells #[.bool false, .slice none 0 0, .int .i64 0] 47) →
      (∀ j, Calls Tryz.prog 28 #[.slice A l.length c] (W.drewN j) (SnNew (Vl l) (W.drewN j))) ∧ Chg No w W ∧ W.heap.size = w.heap.size + 2 ∧
      W.cell? ⟨w.heap.size, 3, none⟩ = some (.bool n) ∧ W.cell? ⟨w.heap.size, 4, none⟩ = some (.slice A l.length c) ∧ W.cell? ⟨w.heap.size, 5, none⟩ = some (.int .i64 E) ∧
      W.cell? ⟨w.heap.size + 1, 0, none⟩ = some (.bool false) ∧ W.cell? ⟨w.heap.size + 1, 1, none⟩ = some (.slice none 0 0) ∧ W.cell? ⟨w.heap.size + 1, 2, none⟩ = some (.int .i64 0) ∧ Plain W (w.heap.size + 1)) := by
    apply Lib.hid
    rintro W rfl
    have k1 := (Chg.refl No w).alloc (.cells #[.int .u64 P, .int .i64 M, .int .i64 1, .bool n, .slice A l.length c, .int .i64 E] 43)
    have k2 := k1.alloc (.cells #[.bool false, .slice none 0 0, .int .i64 0] 47)
    have hs : (w.alloc (.cells #[.int .u64 P, .int .i64 M, .int .i64 1, .bool n, .slice A l.length c, .int .i64 E] 43)).heap.size = w.heap.size + 1 := by simp
    have old : ∀ o, ((w.alloc (.cells #[.int .u64 P, .int .i64 M, .int .i64 1, .bool n, .slice A l.length c, .int .i64 E] 43)).alloc (.cells #[.bool false, .slice none 0 0, .int .i64 0] 47)).cell? ⟨w.heap.size, o, none⟩ = (w.alloc (.cells #[.int .u64 P, .int .i64 M, .int .i64 1, .bool n, .slice A l.length c, .int .i64 E] 43)).cell? ⟨w.heap.size, o, none⟩ := fun o => World.cell?_alloc_lt _ _ _ (by rw [hs]; show w.heap.size < _; omega)
    have new := fun o => World.cell?_alloc_new (w.alloc (.cells #[.int .u64 P, .int .i64 M, .int .i64 1, .bool n, .slice A l.length c, .int .i64 E] 43)) #[.bool false, .slice none 0 0, .int .i64 0] 47 o
    rw [hs] at new
    refine ⟨fun j => spec_OfN A c l _ (hr.chg (k2.drewN j)) hl hm hc, k2, by simp, (old 3).trans (World.cell?_alloc_new _ _ _ _), (old 4).trans (World.cell?_alloc_new _ _ _ _), (old 5).trans (World.cell?_alloc_new _ _ _ _), new 0, new 1, new 2, ?_⟩
    have := Plain.new (w.alloc (.cells #[.int .u64 P, .int .i64 M, .int .i64 1, .bool n, .slice A l.length c, .int .i64 E] 43)) #[.bool false, .slice none 0 0, .int .i64 0] 47
    rwa [hs] at this
  clear hr hm
  go_enter Tryz.func20, Tryz.ntmps20
  go_wp2_with fail
  generalize hWe : (w.alloc (.cells #[.int .u64 P, .int .i64 M, .int .i64 1, .bool n, .slice A l.length c, .int .i64 E] 43)).alloc (.cells #[.bool false, .slice none 0 0, .int .i64 0] 47) = W
  obtain ⟨H1, HC, hsz, c3, c4, c5, r0, r1, r2, hpl⟩ := HW.out W hWe.symm
  have H1 := Lib.hid H1
  have HC := Lib.hid HC
  have f0 := hpl.free 0
  have f1 := hpl.free 1
  have f2 := hpl.free 2
  have HP := Lib.hid hpl
  clear HW hWe hpl
  go_region_with (first
    | (go_at_call 28; refine (H1.out _).mono ?_; rintro e w2 ⟨r, rfl, hr2, hnew, hk2⟩; have HR := Lib.hid hr2; have HNW := Lib.hid hnew; have HK := Lib.hid hk2; obtain ⟨rA, rn, rc, rfl⟩ : ∃ a n c, r = .slice a n c := (by obtain ⟨l, A, c, e, _⟩ := hr2.view; exact ⟨_, _, _, e⟩); have d3 : w2.cell? ⟨w.heap.size, 3, none⟩ = some (.bool n) := (hk2.cell _ _ (by simp; omega) (fun f => f)).trans c3; have d5 : w2.cell? ⟨w.heap.size, 5, none⟩ = some (.int .i64 E) := (hk2.cell _ _ (by simp; omega) (fun f => f)).trans c5; have q0 : w2.cell? ⟨w.heap.size + 1, 0, none⟩ = some (.bool false) := (hk2.cell _ _ (by simp; omega) (fun f => f)).trans r0; have q1 : w2.cell? ⟨w.heap.size + 1, 1, none⟩ = some (.slice none 0 0) := (hk2.cell _ _ (by simp; omega) (fun f => f)).trans r1; have q2 : w2.cell? ⟨w.heap.size + 1, 2, none⟩ = some (.int .i64 0) := (hk2.cell _ _ (by simp; omega) (fun f => f)).trans r2; have hp2 : Plain w2 (w.heap.size + 1) := hk2.plain _ HP.out; have g0 := hp2.free 0; have g1 := hp2.free 1; have g2 := hp2.free 2; clear hr2 hk2 hp2 hnew))
  all_goals
    go_wp2_with fail
    have hC2 : Chg No w w2 := (HC.out.drewN _).then HK.out (fun _ _ _ f => f)
    refine bodyPost_ret (v := .agg #[.bool n, .slice rA rn rc, .int .i64 E]) ?_ rfl ⟨_, rfl, ?_, ?_⟩
    · have hres : Tryz.f20.results = #[.cell 2 47] := rfl
      simp [results, hres, asAddr]
      exact load47 _ _ _ _ _ ((cell_setCell_ne _ _ _ _ _ _ (.inr (by decide))).trans ((cell_setCell_ne _ _ _ _ _ _ (.inr (by decide))).trans (World.cell?_setCell_same _ _ _ q0))) ((cell_setCell_ne _ _ _ _ _ _ (.inr (by decide))).trans (World.cell?_setCell_same _ _ _ ((cell_setCell_ne _ _ _ _ _ _ (.inr (by decide))).trans q1))) (World.cell?_setCell_same _ _ _ ((cell_setCell_ne _ _ _ _ _ _ (.inr (by decide))).trans ((cell_setCell_ne _ _ _ _ _ _ (.inr (by decide))).trans q2)))
    · obtain ⟨l2, h1, h2⟩ := HR.out
      exact ⟨l2, h1.chgB (three_new w2 (w.heap.size + 1) _ _ _ _ _ _ q0 q1 q2 (by simp) (by simp) (by simp) (by simp) (by simp) (by simp)) (fun ad k c2 e => (HNW.out ad k c2 e).imp id (fun h o f => by have h3 : W.heap.size ≤ ad.block := h; omega)), h2⟩
    · exact hC2.then (three_new w2 (w.heap.size + 1) _ _ _ _ _ _ q0 q1 q2 (by simp) (by simp) (by simp) (by simp) (by simp) (by simp)) (fun x o hx f => by omega)
end Go.Proofs.YtacfhndledcmgaaGreatDoor
