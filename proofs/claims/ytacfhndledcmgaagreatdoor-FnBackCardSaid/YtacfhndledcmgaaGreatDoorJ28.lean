/- Lemmas for the law FnBack: Float.fmtP, Float.Set to another precision. Conditions: those in each theorem; none besides. -/
import Derived.Test.YtacfhndledcmgaaGreatDoorJ27
import Derived.Test.YtacfhndledcmgaaGreatDoorJ26
import Derived.Test.YtacfhndledcmgaaGreatDoorJ25
import Derived.Test.YtacfhndledcmgaaGreatDoorJ24
import Derived.Test.YtacfhndledcmgaaGreatDoorJ3
import Derived.Deep.RegionHeld3
set_option linter.unusedVariables false
set_option linter.unusedSimpArgs false
namespace Go.Proofs.YtacfhndledcmgaaGreatDoor
open Go.RowKit
/-- K hexadecimal figures of Z. -/
def hexL (Z K : Nat) : List Nat := (List.range K).map fun p => hexc (Z / 16 ^ (K - 1 - p) % 16)
theorem hexL_length (Z K : Nat) : (hexL Z K).length = K := by simp [hexL]
theorem hexL_lt (Z K : Nat) : ∀ c ∈ hexL Z K, c < 256 := by
  intro c hc
  obtain ⟨p, _, rfl⟩ := List.mem_map.1 hc
  exact hexc_lt (Nat.mod_lt _ (by decide))
/-- The text of format p. -/
def pTx (Z K : Nat) (e : Int) : List Nat := [48, 120, 46] ++ hexL Z K ++ [112] ++ (if 0 ≤ e then [43] else []) ++ iTx e
theorem mod16_zero (V : Nat) : ∀ r, (∀ q, q < r → V / 16 ^ q % 16 = 0) → V % 16 ^ r = 0
  | 0, _ => by rw [Nat.pow_zero, Nat.mod_one]
  | r + 1, h => by
    have ih := mod16_zero V r fun q hq => h q (by omega)
    rw [Nat.mod_pow_succ, ih, h r (by omega), Nat.mul_zero]
theorem hexc_48 {d : Nat} (h : hexc d = 48) : d = 0 := by unfold hexc at h; split at h <;> omega
/-- What the figures behind the last that is no zero leave. -/
theorem trim_law {V D K m : Nat} (h1 : 16 ^ (D - 1) ≤ V) (h2 : V < 16 ^ D) (hB : blen V = 64 * m) (hK : 0 < K) (hKD : K ≤ D) (hz : ∀ p, K ≤ p → p < D → hexc (V / 16 ^ (D - 1 - p) % 16) = 48) :
    D = 16 * m ∧ V = V / 16 ^ (D - K) * 16 ^ (D - K) ∧ 16 ^ (K - 1) ≤ V / 16 ^ (D - K) ∧ V / 16 ^ (D - K) < 16 ^ K ∧ (∀ p, p < K → V / 16 ^ (D - 1 - p) % 16 = V / 16 ^ (D - K) / 16 ^ (K - 1 - p) % 16) := by
  have hV0 : V ≠ 0 := by have := Nat.pow_pos (n := D - 1) (show 0 < 16 by decide); omega
  obtain ⟨q1, q2, q3⟩ := blen_spec hV0
  rw [hB] at q2 q3
  have e16 : ∀ n, (16 : Nat) ^ n = 2 ^ (4 * n) := fun n => by rw [show (16 : Nat) = 2 ^ 4 from rfl, ← Nat.pow_mul]
  have a1 := (Nat.pow_lt_pow_iff_right (by decide : 1 < 2)).1 (show 2 ^ (4 * (D - 1)) < 2 ^ (64 * m) by rw [← e16]; exact Nat.lt_of_le_of_lt h1 q3)
  have a2 := (Nat.pow_lt_pow_iff_right (by decide : 1 < 2)).1 (show 2 ^ (64 * m - 1) < 2 ^ (4 * D) by rw [← e16]; exact Nat.lt_of_le_of_lt q2 h2)
  have hm0 : V % 16 ^ (D - K) = 0 := mod16_zero V _ fun q hq => by
    have := hz (D - 1 - q) (by omega) (by omega)
    rw [show D - 1 - (D - 1 - q) = q by omega] at this
    exact hexc_48 this
  have hV : V = V / 16 ^ (D - K) * 16 ^ (D - K) := (Nat.div_mul_cancel (Nat.dvd_of_mod_eq_zero hm0)).symm
  refine ⟨by omega, hV, ?_, ?_, fun p hp => ?_⟩
  · refine (Nat.le_div_iff_mul_le (Nat.pow_pos (by decide))).2 ?_
    rw [← Nat.pow_add, show K - 1 + (D - K) = D - 1 by omega]; exact h1
  · refine (Nat.div_lt_iff_lt_mul (Nat.pow_pos (by decide))).2 ?_
    rw [← Nat.pow_add, show K + (D - K) = D by omega]; exact h2
  · rw [Nat.div_div_eq_div_mul, ← Nat.pow_add, show D - K + (K - 1 - p) = D - 1 - p by omega]
/-- The low words that are zero are passed over. -/
theorem NtAt.tail {w : World} {xb xo m xc Y i : Nat} (h : NtAt w xb xo m xc Y) (hi : i < m) (h0 : ∀ j, j < i → wd w xb (xo + j) = 0) : NtAt w xb (xo + i) (m - i) (xc - i) (Y / WB ^ i) ∧ Y = Y / WB ^ i * WB ^ i := by
  have hle := h.1.le
  have h1 := V_split (fun j => wd w xb (xo + j)) i (m - i)
  rw [show i + (m - i) = m by omega] at h1
  have h2 := h.2.1
  unfold Val at h2
  rw [h2] at h1
  have h3 : V (fun j => wd w xb (xo + j)) i = 0 := by
    have := Val_zeros w xb xo 0 i (fun j _ hj => h0 j (by omega))
    rw [Nat.zero_add] at this
    exact this
  rw [h3, Nat.zero_add] at h1
  have h4 : Y / WB ^ i = V (fun j => wd w xb (xo + (i + j))) (m - i) := by rw [h1, Nat.mul_div_cancel_left _ (Nat.pow_pos WB_pos)]
  refine ⟨⟨⟨by omega, Nat.le_trans (Nat.sub_le _ _) h.1.max, fun j hj => by rw [Nat.add_assoc]; exact h.1.isW (i + j) (by omega), h.1.plain, h.1.own⟩, ?_, .inr ?_⟩, ?_⟩
  · rw [h4]; unfold Val
    exact V_congr _ fun j _ => by rw [Nat.add_assoc]
  · rw [show xo + i + (m - i - 1) = xo + (m - 1) by omega]
    exact h.2.2.resolve_left (by omega)
  · rw [h4, Nat.mul_comm]; exact h1
set_option maxRecDepth 100000 in
set_option maxHeartbeats 4000000 in
theorem float_fmtP (base b P M : Nat) (n : Bool) (X : Nat) (E : Int) (xb xo m xc : Nat) (buf : Value) (pre : List Nat) (w : World) (h : FlX w base b P M n X E xb xo m xc) (hz : Ls .u8 256 w buf pre) (hpre : pre.length ≤ 501) (hm : m ≤ 20)
    (hE1 : -1900 ≤ E + blen X) (hE2 : E + blen X ≤ 1900) (hd : ∀ x o, Fp buf x o → x ≠ b ∧ x ≠ xb) (hg : Glob w) :
    Calls Tryz.prog 191 #[.pointer (some ⟨b, 0, none⟩), buf] w fun e w' => ∃ r, e = .returned r ∧ ∃ Z K, upTo X m = Z * 2 ^ (64 * m - 4 * K) ∧ 16 ^ (K - 1) ≤ Z ∧ Z < 16 ^ K ∧ 0 < K ∧ 4 * K ≤ 64 * m ∧ App .u8 256 w w' buf r (pre ++ pTx Z K (E + blen X)) := by
  have hX0 := h.X0
  have h17 := hg.size
  have hi := h.hi
  have hm0 := h.m0
  obtain ⟨Y, hY⟩ : ∃ Y, Y = upTo X m := ⟨_, rfl⟩
  have hN := h.nt
  rw [← hY] at hN ⊢
  have hYB : blen Y = 64 * m := by rw [hY]; exact blen_upTo hX0 hm0 hi
  have hle := hN.1.le
  have HF := Lib.hid h
  have HZ := Lib.hid hz
  have HG := Lib.hid hg
  have HD := Lib.hid hd
  have HN := Lib.hid hN
  have HYB := Lib.hid hYB
  obtain ⟨XE, hXE⟩ : ∃ XE : Int, XE = E + blen X := ⟨_, rfl⟩
  have hE := h.fl
  rw [show (blen X : Int) + E = XE by omega] at hE
  rw [← hXE] at hE1 hE2 ⊢
  have HFl := Lib.hid hE
  obtain ⟨c0, c1, c2, c3, c4, c5, c6, -, -, -, -, -⟩ := hE
  obtain ⟨ci, hi1, hi2, hi3, hi4⟩ := info_of info5
  clear h hz hg hd hN hX0 hi hY hYB hXE
  go_enter Tryz.func191, Tryz.ntmps191
  go_wp2_with fail
  go_loopg [6] m (fun gk iv wr => ∃ i : Nat, i + gk = m ∧ i < m ∧ iv = .int .i64 i ∧ w = wr ∧ Hid (∀ j, j < i → wd w xb (xo + j) = 0))
  case atStart => exact ⟨0, by omega, hm0, rfl, rfl, Lib.hid (fun j h => by omega)⟩
  case round =>
  obtain ⟨i, hgk, him, rfl, rfl, hZ⟩ := hrel
  have hc := (HN.out.1.isW i (by omega)).cell
  obtain ⟨y, hy⟩ : ∃ y, y = wd w xb (xo + i) := ⟨_, rfl⟩
  rw [← hy] at hc
  have HY := Lib.hid hy
  have i1 : (i : Int) < (m : Int) := by omega
  by_cases hy0 : y = 0
  · obtain ⟨g1, hg1⟩ : ∃ g, gk = g + 1 := ⟨gk - 1, by omega⟩
    have hlt : i + 1 < m := by
      rcases Nat.lt_or_ge (i + 1) m with h | h
      · exact h
      · exfalso
        have h1 := HN.out.2.2.resolve_left (by omega)
        rw [show m - 1 = i by omega, ← hy] at h1
        exact h1 hy0
    have HZ2 : Hid (∀ j, j < i + 1 → wd w xb (xo + j) = 0) := Lib.hid fun j hj => by
      by_cases e : j = i
      · rw [e, ← hy, hy0]
      · exact hZ.out j (by omega)
    subst hy0
    clear hy
    go_wp2_with fail
    go_roundg g1
    case measure => omega
    case rel => exact ⟨i + 1, by omega, hlt, by go_num, rfl, HZ2⟩
  · have t1 : ((y : Int) == 0) = false := by simp; omega
    clear hy
    obtain ⟨hT, hYe⟩ := HN.out.tail him hZ.out
    obtain ⟨V0, hV0⟩ : ∃ V0, V0 = Y / WB ^ i := ⟨_, rfl⟩
    rw [← hV0] at hT hYe
    have hcap : ¬ xc = i := by omega
    have hVB : blen V0 = 64 * (m - i) := by
      have hV00 : V0 ≠ 0 := by intro e; rw [e, Nat.zero_mul] at hYe; have h1 := HYB.out; rw [hYe] at h1; simp [blen] at h1; omega
      have h1 := HYB.out
      rw [hYe, Nat.mul_comm, WB_two, blen_pow hV00] at h1
      omega
    have hV00 : V0 ≠ 0 := by intro e; rw [e] at hVB; simp [blen] at hVB; omega
    have HT := Lib.hid hT
    have HYE := Lib.hid (And.intro hYe (And.intro hVB hV00))
    have HSrc := Lib.hid (Src.txt w [48, 120, 46] (by decide))
    clear hT hYe hVB hV00 hV0
    go_upto_region 11 with (refine wpList_append_num rfl km8 (.tmp 43) (.const (.string ⟨#[48, 120, 46]⟩)) 56 9 5 rfl ci Tryz.underlying56 hi1 hi2 hi3 (by rw [hi4]; omega) buf pre rfl HZ.out _ rfl [48, 120, 46] HSrc.out (by decide) (by decide) (by simp; omega) h17 ?_; intro r2 w2 happ; have HA2 := Lib.hid happ; clear happ)
    have HT2 := Lib.hid (HT.out.chg HA2.out.chg (fun j hj f => (HD.out _ _ f).2 rfl))
    have HG2 := HG.out.chg HA2.out.chg (fun x o f => (HZ.out.fp_lt f).2)
    have HU := Lib.hid (utoa16 xb (xo + i) (m - i) (xc - i) V0 w2 HT2.out HYE.out.2.2 (by omega) (by omega) HG2)
    clear HG2
    go_wp2_with fail
    refine HU.out.mono ?_
    rintro e w3 ⟨sb, so, sc, D, rfl, hn3, hw3, hlo, hhi, hD0, hsb, hk3⟩
    have hD2 : D = 16 * (m - i) := by
      have hV0 := HYE.out.2.2
      have e16 : ∀ n, (16 : Nat) ^ n = 2 ^ (4 * n) := fun n => by rw [show (16 : Nat) = 2 ^ 4 from rfl, ← Nat.pow_mul]
      obtain ⟨q1, q2, q3⟩ := blen_spec hV0
      rw [HYE.out.2.1] at q2 q3
      have a1 := (Nat.pow_lt_pow_iff_right (by decide : 1 < 2)).1 (show 2 ^ (4 * (D - 1)) < 2 ^ (64 * (m - i)) by rw [← e16]; exact Nat.lt_of_le_of_lt hlo q3)
      have a2 := (Nat.pow_lt_pow_iff_right (by decide : 1 < 2)).1 (show 2 ^ (64 * (m - i) - 1) < 2 ^ (4 * D) by rw [← e16]; exact Nat.lt_of_le_of_lt q2 hhi)
      omega
    have hfirst : wd w3 sb (so + 0) ≠ 48 := by
      rw [hw3 0 hD0]
      intro h
      have h1 := hexc_48 h
      rw [Nat.sub_zero] at h1
      have h2 : V0 / 16 ^ (D - 1) < 16 := by
        refine (Nat.div_lt_iff_lt_mul (Nat.pow_pos (by decide))).2 ?_
        rw [Nat.mul_comm, ← Nat.pow_succ, show (D - 1).succ = D by omega]; exact hhi
      have h3 : 1 ≤ V0 / 16 ^ (D - 1) := (Nat.le_div_iff_mul_le (Nat.pow_pos (by decide))).2 (by rw [Nat.one_mul]; exact hlo)
      rw [Nat.mod_eq_of_lt h2] at h1
      omega
    have HTr := Lib.hid (trimRight0 sb so sc D w3 hn3 hD0 (by omega) hfirst)
    have A3 := Lib.hid (HA2.out.no hk3)
    have HN3 := Lib.hid hn3
    have HW3 := Lib.hid (And.intro hw3 (And.intro hlo (And.intro hhi hD2)))
    have hD320 : D ≤ 320 := by omega
    clear hn3 hw3 hlo hhi hsb hk3 hD2 hfirst
    go_wp2_with fail
    refine HTr.out.mono ?_
    rintro e w4 ⟨K, rfl, hKD, hK0, hz, hlast, rfl⟩
    obtain ⟨hw3, hlo, hhi, hD2⟩ := HW3.out
    obtain ⟨l1, l2, l3, l4, l5⟩ := trim_law hlo hhi HYE.out.2.1 hK0 hKD (fun p h1 h2 => by rw [← hw3 p h2]; exact hz p h1 h2)
    obtain ⟨Z, hZd⟩ : ∃ Z, Z = V0 / 16 ^ (D - K) := ⟨_, rfl⟩
    rw [← hZd] at l2 l3 l4 l5
    have hcells : ∀ j (hj : j < (hexL Z K).length), w3.cell? ⟨sb, so + j, none⟩ = some (.int .u8 ((hexL Z K)[j] : Nat)) := fun j hj => by
      have hj' : j < K := by rw [hexL_length] at hj; exact hj
      have h1 := (HN3.out.isI j (by have := HN3.out.le; omega)).cell
      rw [hw3 j (by omega), l5 j hj'] at h1
      have h2 : (hexL Z K)[j] = hexc (Z / 16 ^ (K - 1 - j) % 16) := by simp [hexL]
      rw [h2]; exact h1
    have HC := Lib.hid hcells
    have HYZ : Hid (Y = Z * 2 ^ (64 * m - 4 * K) ∧ 4 * K ≤ 64 * m) := Lib.hid ⟨by
      rw [HYE.out.1, l2, Nat.mul_assoc]
      congr 1
      rw [show (16 : Nat) ^ (D - K) = 2 ^ (4 * (D - K)) by rw [show (16 : Nat) = 2 ^ 4 from rfl, ← Nat.pow_mul], WB_two, ← Nat.pow_add]
      congr 1; omega, by omega⟩
    have HZZ := Lib.hid (And.intro l3 l4)
    have hlen : (hexL Z K).length = K := hexL_length Z K
    have hpos : 0 < (hexL Z K).length := by rw [hlen]; exact hK0
    have hlK : K ≤ 320 := by omega
    have HLen := Lib.hid hlen
    have hb1 : (pre ++ [48, 120, 46]).length + (hexL Z K).length < 4000000000 := by rw [hlen]; simp; omega
    clear hz hlast hw3 hlo hhi hD2 l1 l2 l3 l4 l5 hZd hcells hlen
    go_upto_region 12 with (refine wpList_appS (w0 := w) (z0 := buf) (l := pre ++ [48, 120, 46]) (vs := hexL Z K) (mb := sb) (mo := so) (n := K) (mc := sc) rfl (.tmp 45) (.tmp 48) rfl rfl rfl HLen.out.symm A3.out (hexL_lt Z K) HC.out hpos hb1 h17 ?_; intro r4 w4 ha; have HA4 := Lib.hid ha; clear ha)
    have hb2 : (pre ++ [48, 120, 46] ++ hexL Z K).length < 4000000000 := by rw [List.length_append]; omega
    go_upto_region 13 with (refine wpList_app1 (w0 := w) (z0 := buf) (l := pre ++ [48, 120, 46] ++ hexL Z K) (c := 112) rfl (.tmp 50) (.tmp 51) rfl rfl rfl HA4.out (by omega) hb2 h17 ?_; intro r5 w5 ha; have HA5 := Lib.hid ha; clear ha)
    have c6 := (HFl.out.chg HA5.out.chg (fun o f => (HD.out b o f).1 rfl)).c6
    have eX : IntKind.i64.wrap XE = XE := IntWalk.i64_in _ (by omega)
    have hg5 : Glob w5 := HG.out.chg HA5.out.chg (fun x o f => (HZ.out.fp_lt f).2)
    have HG5 := Lib.hid hg5
    have hlen3 : (pre ++ [48, 120, 46] ++ hexL Z K ++ [112]).length ≤ 900 := by rw [List.length_append, List.length_append, List.length_append, HLen.out]; simp; omega
    clear hg5
    by_cases hs : 0 ≤ XE
    · have HT9 : Hid (pTx Z K XE = [48, 120, 46] ++ hexL Z K ++ [112] ++ [43] ++ iTx XE) := Lib.hid (by unfold pTx; rw [if_pos hs])
      have hb3 : (pre ++ [48, 120, 46] ++ hexL Z K ++ [112]).length < 4000000000 := by omega
      have HU9 := Lib.hid fun (z7 : Value) (w7 : World) (h1 : App .u8 256 w w7 buf z7 (pre ++ [48, 120, 46] ++ hexL Z K ++ [112] ++ [43])) => sc_AppendInt2 z7 _ XE w7 h1.ls (by omega) (by omega) (by rw [List.length_append]; simp at hlen3 ⊢; omega) (HG.out.chg h1.chg (fun x o f => (HZ.out.fp_lt f).2))
      have hF9 : Hid (∀ w7 z7 l7, App .u8 256 w w7 buf z7 l7 → w7.cell? ⟨b, 6, none⟩ = some (.int .i32 XE)) := Lib.hid fun w7 z7 l7 h1 => (HFl.out.chg h1.chg (fun o f => (HD.out b o f).1 rfl)).c6
      go_upto_region 15 with (refine wpList_app1 (w0 := w) (z0 := buf) (l := pre ++ [48, 120, 46] ++ hexL Z K ++ [112]) (c := 43) rfl (.tmp 58) (.tmp 59) rfl rfl rfl HA5.out (by omega) hb3 h17 ?_; intro r7 w7 ha; have HA7 := Lib.hid ha; clear ha)
      have c6' := hF9.out _ _ _ HA7.out
      have HU7 := Lib.hid (HU9.out _ _ HA7.out)
      go_wp2_with fail
      refine HU7.out.mono ?_
      rintro e w8 ⟨r8, rfl, ha⟩
      have HA8 := Lib.hid ha
      clear ha
      go_wp2_with fail
      go_ret
      refine ⟨_, rfl, Z, K, HYZ.out.1, HZZ.out.1, HZZ.out.2, hK0, HYZ.out.2, ?_⟩
      rw [HT9.out]
      have := HA7.out.trans HA8.out
      simpa [List.append_assoc] using this
    · have HT9 : Hid (pTx Z K XE = [48, 120, 46] ++ hexL Z K ++ [112] ++ iTx XE) := Lib.hid (by unfold pTx; rw [if_neg hs, List.append_nil])
      have HU7 := Lib.hid (sc_AppendInt2 r5 _ XE w5 HA5.out.ls (by omega) (by omega) (by omega) HG5.out)
      go_wp2_with fail
      refine HU7.out.mono ?_
      rintro e w8 ⟨r8, rfl, ha⟩
      have HA8 := Lib.hid ha
      clear ha
      go_wp2_with fail
      go_ret
      refine ⟨_, rfl, Z, K, HYZ.out.1, HZZ.out.1, HZZ.out.2, hK0, HYZ.out.2, ?_⟩
      rw [HT9.out]
      have := HA5.out.trans HA8.out
      simpa [List.append_assoc] using this
/-- What Set leaves in a Float of its own precision. -/
def SetOut (b n M : Nat) (ng : Bool) (X : Nat) (E : Int) (w : World) (e : Ending) (w' : World) : Prop :=
  e = .returned (.pointer (some ⟨b, 0, none⟩)) ∧ ∃ N k yb yo m yc, X = N * 2 ^ k ∧ FlX w' w.heap.size b n M ng N (E + (k : Nat)) yb yo m yc ∧ Chg (Blk b) w w'
set_option maxRecDepth 100000 in
set_option maxHeartbeats 4000000 in
theorem float_Set2 (b np M : Nat) (a0 : Int) (f0 : Nat) (n0 : Bool) (e0 : Int) (base x P M' : Nat) (n : Bool) (X : Nat) (E : Int) (xb xo m xc : Nat) (w : World) (hz : Fl w b np M a0 f0 n0 (.slice none 0 0) e0) (hx : FlX w base x P M' n X E xb xo m xc)
    (hm : m ≤ 1000) (hne : b ≠ x) (hb : xb ≠ b) (hs : 17 ≤ w.heap.size) (hn0 : 0 < np) (hn1 : np < 60000) (hM : M < 6) (hd : np < blen X → X % 2 ^ (blen X - np) = 0) :
    Calls Tryz.prog 185 #[.pointer (some ⟨b, 0, none⟩), .pointer (some ⟨x, 0, none⟩)] w (SetOut b np M n X E w) := by
  have hX0 := hx.X0
  have HX := Lib.hid hx
  obtain ⟨hx1, hxn, hx2, hx3, hx4, hx5, hx6⟩ := hx
  have hp := fun (W : World) (h1 : Plain W b) (h2 : Plain W x) => neq_fother (a := ⟨b, 0, none⟩) (b := ⟨x, 0, none⟩) (w := W) (by intro e; cases e; exact hne rfl) h1 h2
  have hp0 := hp _ ((hz.set2 0).plain) (hx1.plain.setCell ⟨b, 2, none⟩ (.int .i8 0))
  have s1 := hz.set2 0
  have t1 := hz.put2 (Chg.refl (Blk b) w) 0 (fun _ => rfl)
  have s2 := s1.set3 1 (by omega)
  have t2 := s1.put3 t1 1 (by omega) (fun _ => rfl)
  have s3 := s2.set4 n
  have t3 := s2.put4 t2 n (fun _ => rfl)
  have s4 := s3.set6 (blen X + E)
  have t4 := s3.put6 t3 (blen X + E) (fun _ => rfl)
  have HS4 := Lib.hid s4
  have HT4 := Lib.hid t4
  have HZ := Lib.hid hz.lt
  have HDD := Lib.hid hd
  have HX0 := Lib.hid hX0
  obtain ⟨c0, c1, c2, c3, c4, c5, c6, -, hpl, -, -, -⟩ := hz
  have g2 := hpl.free 2
  have g3 := hpl.free 3
  have g4 := hpl.free 4
  have g6 := hpl.free 6
  obtain ⟨d0, d1, d2, d3, d4, d5, d6, -, -, -, -, -⟩ := hx1
  have hne2 : ¬ x = b := fun e => hne e.symm
  clear hp hpl s1 s2 s3 s4 t1 t2 t3 t4 hxn hd hX0
  go_enter Tryz.func185, Tryz.ntmps185
  go_upto_region 7 with fail
  generalize (((w.setCell ⟨b, 2, none⟩ (.int .i8 0)).setCell ⟨b, 3, none⟩ (.int .u8 1)).setCell ⟨b, 4, none⟩ (.bool n)).setCell ⟨b, 6, none⟩ (.int .i32 (blen X + E)) = w4 at *
  clear c0 c1 c2 c3 c4 c5 c6 g2 g3 g4 g6 d0 d1 d2 d3 d4 d5 d6 hp0
  have HX4 := Lib.hid (HX.out.chg HT4.out (fun o h => hne h.symm) (fun i h => hb h))
  have hsz4 := HT4.out.size
  obtain ⟨c0, c1, c2, c3, c4, c5, c6, -, hpl, -, -, -⟩ := HS4.out
  obtain ⟨d0, d1, d2, d3, d4, d5, d6, -, -, -, -, -⟩ := HX4.out.fl
  have HSt := Lib.hid (nat_set (.slice none 0 0) (.slice (some ⟨xb, xo, none⟩) m xc) (upTo X m) w4.drew (.inl rfl) ((HX4.out.nt.chg (Chg.refl No w4).drew (fun _ _ f => f)).nt) (small_words (upTo_lt HX0.out HX4.out.hi) hm) (Nat.le_trans hs hsz4))
  clear hpl
  go_region_with (go_at_call 156; refine HSt.out.mono ?_; rintro e w5 ⟨r, rfl, hr⟩; obtain ⟨ra, rn, rc, rfl⟩ := hr.nt.sl; have k5 : Chg No w4 w5 := (((Chg.refl No w4).drew).then hr.chg (fun _ _ _ f => f)); have F5 := HS4.out.chg k5 (fun _ f => f); have c5' := F5.c5; have f5' := F5.plain.free 5; have HR := Lib.hid hr; have HF5 := Lib.hid F5; have HK5 := Lib.hid k5; clear hr F5 k5)
  all_goals
    obtain ⟨yb, yo, rfl, hN, hm0⟩ : ∃ yb yo, ra = some ⟨yb, yo, none⟩ ∧ NtAt w5 yb yo rn rc (upTo X m) ∧ 0 < rn := by
      have hU0 : upTo X m ≠ 0 := by
        have := upTo_ge HX0.out HX4.out.hi
        have h2 := Nat.two_pow_pos (64 * m - 1)
        omega
      rcases HR.out.nt with ⟨_, h⟩ | ⟨yb, yo, m', yc, h, hn, h2, h3⟩
      · exact absurd h hU0
      · cases h
        refine ⟨yb, yo, rfl, ⟨hn, h2, h3⟩, ?_⟩
        rcases Nat.eq_zero_or_pos rn with e | e
        · subst e; exact absurd h2.symm hU0
        · exact e
    have hrn : rn = m := by
      have h1 := blen_words hN hm0
      have h2 := blen_upTo HX0.out HX4.out.m0 HX4.out.hi
      omega
    subst hrn
    have hyb : w.heap.size ≤ yb := by
      rcases HR.out.fp yb yo ⟨rfl, Nat.le_refl _, by have := hN.1.le; show yo < yo + rc; omega⟩ with f | f
      · exact f.elim
      · have h3 : w4.heap.size ≤ yb := f
        omega
    have hybb : yb ≠ b := by have := HZ.out; omega
    have F6 := HF5.out.set5 (.slice (some ⟨yb, yo, none⟩) rn rc) ⟨_, _, _, rfl⟩
    have k6 := HF5.out.put5 (Chg.refl (Blk b) w5) (.slice (some ⟨yb, yo, none⟩) rn rc) (fun _ => rfl)
    have HF6 := Lib.hid F6
    have HK6 := Lib.hid ((HT4.out.then HK5.out (fun _ _ _ f => f.elim)).then k6 (fun _ _ _ f => f))
    have HN6 := Lib.hid (hN.chg k6 (fun i hi h => hybb h))
    have HX6 := Lib.hid ((HX4.out.chg HK5.out (fun _ f => f) (fun _ f => f)).chg k6 (fun o h => hne h.symm) (fun i h => hb h))
    clear F6 hN c0 c1 c2 c3 c4 c5 c6 d0 d1 d2 d3 d4 d5 d6 c5' f5' HSt
    go_upto_region 8 with fail
    clear k6
    generalize w5.setCell ⟨b, 5, none⟩ (.slice (some ⟨yb, yo, none⟩) rn rc) = w6 at *
    have c0 := HF6.out.c0
    have d0 := HX6.out.fl.c0
    have tn : ((np : Int) == 0) = false := by simp; omega
    go_upto_region 10 with fail
    have c0d : w6.drew.cell? ⟨b, 0, none⟩ = _ := c0
    go_region_held3 (fun W => W.cell? ⟨b, 0, none⟩ = some (.int .u32 np) ∧ W.cell? ⟨x, 0, none⟩ = some (.int .u32 P)) (first | assumption | exact ⟨c0, d0⟩) (fail)
    all_goals
      clear c0 d0 c0d
      have kd : Chg No w6 w6.drew := (Chg.refl No w6).drew
      by_cases hlt : np < P
      · have t5 : decide (np < P) = true := decide_eq_true hlt
        have HRd := Lib.hid (float_round_fit w.heap.size b np M 0 n E yb yo rn rc X w6.drew (HF6.out.chg kd (fun _ f => f)) (HN6.out.chg kd (fun _ _ f => f)) hm0 HX4.out.lo HX4.out.hi hm hn0 hn1 HX0.out HDD.out hybb hM hyb)
        have HKd := Lib.hid (HK6.out.drew)
        clear kd
        generalize w6.drew = w7 at *
        go_wp2_with fail
        refine HRd.out.mono ?_
        rintro e w8 ⟨rfl, N', k, m', hN', -, hfx, hk8⟩
        have HFX := Lib.hid hfx
        have HNN := Lib.hid hN'
        have HK8 := Lib.hid (HKd.out.then hk8 (fun y o hy h => by
          rcases h with h | h
          · exact h
          · have := h.1; omega))
        clear hfx hN' hk8
        go_wp2_with fail
        go_ret
        exact ⟨rfl, N', k, yb, yo, m', rc, HNN.out, HFX.out, HK8.out⟩
      · have t5 : decide (np < P) = false := decide_eq_false hlt
        have HF7 := Lib.hid (HF6.out.chg kd (fun _ f => f))
        have HN7 := Lib.hid (HN6.out.chg kd (fun _ _ f => f))
        have HKd := Lib.hid (HK6.out.drew)
        clear kd
        generalize w6.drew = w7 at *
        go_wp2_with fail
        go_ret
        exact ⟨rfl, X, 0, yb, yo, rn, rc, by simp, ⟨by simpa using HF7.out, HN7.out, hm0, HX4.out.lo, HX4.out.hi, hybb, hyb⟩, HKd.out⟩
end Go.Proofs.YtacfhndledcmgaaGreatDoor
