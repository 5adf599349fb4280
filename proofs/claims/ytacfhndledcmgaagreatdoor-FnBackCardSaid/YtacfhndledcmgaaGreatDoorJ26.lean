/- Lemmas for the law FnBack: strconv.AppendInt below 2000, Float.fmtB. Conditions: those in each theorem; none besides. -/
import Derived.Test.YtacfhndledcmgaaGreatDoorJ18
import Derived.Test.YtacfhndledcmgaaGreatDoorJ5
import Derived.Test.YtacfhndledcmgaaGreatDoorJ16
import Derived.Test.YtacfhndledcmgaaGreatDoorJ24
import Derived.Deep.RegionHeld3
set_option linter.unusedVariables false
set_option linter.unusedSimpArgs false
namespace Go.Proofs.YtacfhndledcmgaaGreatDoor
open Go.RowKit
set_option maxRecDepth 100000 in
set_option maxHeartbeats 1000000 in
theorem sc_numDigits4 (i : Nat) (w : World) (hg : Glob w) (h1 : 1000 ≤ i) (h : i < 2000) : Calls Tryz.prog 318 #[.int .u64 i] w fun e w' => e = .returned (.int .i64 4) ∧ w = w' := by
  have hb : Lib.bitLen i = 10 ∨ Lib.bitLen i = 11 := by
    revert h1; revert h; clear hg; revert i; decide +kernel
  have H := Lib.hid (Tryz.bits_Len64 (i : Int) w (by omega) (by omega))
  rw [Int.toNat_natCast] at H
  have t3 : w.cell? ⟨14, 3, none⟩ = some (.int .u64 1000) := hg.cell 14 3 _ rfl
  have hk : ∃ L : Nat, Lib.bitLen i = L ∧ L ≤ 64 ∧ L * 78913 / 262144 = 3 := by
    rcases hb with hb | hb
    · exact ⟨10, hb, by decide, by decide⟩
    · exact ⟨11, hb, by decide, by decide⟩
  obtain ⟨L, hL, hL64, hr⟩ := hk
  rw [hL] at H
  have H2 := Lib.hid (sc_log10 L 3 w hL64 hr)
  clear hb hL hr hL64 hg
  have H3 := Lib.hid (sc_bool2 true w)
  have d1 : decide (1000 ≤ i) = true := decide_eq_true h1
  have i1 : (1000 : Int) ≤ (i : Int) := by omega
  have d2 : decide ((1000 : Int) ≤ (i : Int)) = true := decide_eq_true i1
  go_enter Tryz.func318, Tryz.ntmps318
  go_wp2_with fail
  refine H.out.mono ?_
  rintro e w1 ⟨rfl, rfl⟩
  go_wp2_with fail
  refine H2.out.mono ?_
  rintro e w1 ⟨rfl, rfl⟩
  go_wp2_with fail
  refine H3.out.mono ?_
  rintro e w1 ⟨rfl, rfl⟩
  go_wp2_with fail
  go_ret
  exact ⟨rfl, rfl⟩
theorem wd_drew (W : World) (b o : Nat) : wd W.drew b o = wd W b o := rfl
theorem base10_world4 (w : World) (b v0 v1 v2 v3 : Nat) (h0 : IsB w b 0) (h1 : IsB w b 1) (h2 : IsB w b 2) (h3 : IsB w b 3) (g0 : v0 < 256) (g1 : v1 < 256) (g2 : v2 < 256) (g3 : v3 < 256) :
    ∀ W, W = (((w.setCell ⟨b, 3, none⟩ (.int .u8 (v3 : Nat))).setCell ⟨b, 2, none⟩ (.int .u8 (v2 : Nat))).setCell ⟨b, 1, none⟩ (.int .u8 (v1 : Nat))).setCell ⟨b, 0, none⟩ (.int .u8 (v0 : Nat)) → Chg (Rng b 0 4) w W.drew.drew ∧ wd W.drew.drew b 0 = v0 ∧ wd W.drew.drew b 1 = v1 ∧ wd W.drew.drew b 2 = v2 ∧ wd W.drew.drew b 3 = v3 := by
  intro W hW
  rw [wd_drew, wd_drew, wd_drew, wd_drew, wd_drew, wd_drew, wd_drew, wd_drew]
  have k1 := (Chg.refl (Rng b 0 4) w).setB h3 g3 (fun _ => ⟨rfl, by omega, by omega⟩)
  have b2 := k1.isB _ _ h2
  have d3 : wd (w.setCell ⟨b, 3, none⟩ (.int .u8 (v3 : Nat))) b 3 = v3 := wd_setCell_same h3.cell
  generalize w.setCell ⟨b, 3, none⟩ (.int .u8 (v3 : Nat)) = w1 at *
  have k2 := k1.setB b2 g2 (fun _ => ⟨rfl, by omega, by omega⟩)
  have b1 := k2.isB _ _ h1
  have d2 : wd (w1.setCell ⟨b, 2, none⟩ (.int .u8 (v2 : Nat))) b 2 = v2 := wd_setCell_same b2.cell
  have d3 : wd (w1.setCell ⟨b, 2, none⟩ (.int .u8 (v2 : Nat))) b 3 = v3 := (wd_setCell_ne (.inr (by decide))).trans d3
  generalize w1.setCell ⟨b, 2, none⟩ (.int .u8 (v2 : Nat)) = w2 at *
  have k3 := k2.setB b1 g1 (fun _ => ⟨rfl, by omega, by omega⟩)
  have b0 := k3.isB _ _ h0
  have d1 : wd (w2.setCell ⟨b, 1, none⟩ (.int .u8 (v1 : Nat))) b 1 = v1 := wd_setCell_same b1.cell
  have d2 : wd (w2.setCell ⟨b, 1, none⟩ (.int .u8 (v1 : Nat))) b 2 = v2 := (wd_setCell_ne (.inr (by decide))).trans d2
  have d3 : wd (w2.setCell ⟨b, 1, none⟩ (.int .u8 (v1 : Nat))) b 3 = v3 := (wd_setCell_ne (.inr (by decide))).trans d3
  generalize w2.setCell ⟨b, 1, none⟩ (.int .u8 (v1 : Nat)) = w3 at *
  have k4 := k3.setB b0 g0 (fun _ => ⟨rfl, by omega, by omega⟩)
  subst hW
  exact ⟨k4.drew.drew, wd_setCell_same b0.cell, (wd_setCell_ne (.inr (by decide))).trans d1, (wd_setCell_ne (.inr (by decide))).trans d2, (wd_setCell_ne (.inr (by decide))).trans d3⟩
set_option maxRecDepth 100000 in
set_option maxHeartbeats 4000000 in
theorem sc_base10_4 (i b c : Nat) (w : World) (h1 : 1000 ≤ i) (h : i < 2000) (hb : Plain w b) (hc : ∀ j, j < 4 → IsB w b j) :
    Calls Tryz.prog 319 #[.slice (some ⟨b, 0, none⟩) 4 c, .int .u64 i] w fun e w' => e = .returned (.tuple #[]) ∧ Chg (Rng b 0 4) w w' ∧ wd w' b 0 = 48 + i / 100 / 10 ∧ wd w' b 1 = 48 + i / 100 % 10 ∧ wd w' b 2 = 48 + i % 100 / 10 ∧ wd w' b 3 = 48 + i % 100 % 10 := by
  have c0 := (hc 0 (by decide)).cell
  have c1 := (hc 1 (by decide)).cell
  have c2 := (hc 2 (by decide)).cell
  have c3 := (hc 3 (by decide)).cell
  have f0 := hb.free 0
  have f1 := hb.free 1
  have f2 := hb.free 2
  have f3 := hb.free 3
  obtain ⟨m, hm⟩ : ∃ m, m = i % 100 := ⟨_, rfl⟩
  obtain ⟨q, hq⟩ : ∃ q, q = i / 100 := ⟨_, rfl⟩
  have e1 : (i : Int) % 100 = (m : Int) := by omega
  have e2 : (i : Int) / 100 = (q : Int) := by omega
  have e7 : (i : Int) % 10000 = (i : Int) := by omega
  have e8 : (i : Int) / 10000 = 0 := by omega
  have hm1 : m < 100 := by omega
  have hq1 : q < 100 := by omega
  have e0 : IntKind.u32.wrap (i : Int) = (i : Int) := IntWalk.u32_in _ (by omega)
  obtain ⟨k1, hk1⟩ : ∃ k1, k1 = m * 2 := ⟨_, rfl⟩
  obtain ⟨k2, hk2⟩ : ∃ k2, k2 = k1 + 1 := ⟨_, rfl⟩
  obtain ⟨l1, hl1⟩ : ∃ l1, l1 = q * 2 := ⟨_, rfl⟩
  obtain ⟨l2, hl2⟩ : ∃ l2, l2 = l1 + 1 := ⟨_, rfl⟩
  have e4 : (m : Int) * 2 = (k1 : Int) := by omega
  have e5 : (k1 : Int) + 1 = (k2 : Int) := by omega
  have e9 : (q : Int) * 2 = (l1 : Int) := by omega
  have e10 : (l1 : Int) + 1 = (l2 : Int) := by omega
  have i5 : (k1 : Int) < 200 := by omega
  have i6 : (k2 : Int) < 200 := by omega
  have i7 : (l1 : Int) < 200 := by omega
  have i8 : (l2 : Int) < 200 := by omega
  have n5 : k1 < 200 := by omega
  have n6 : k2 < 200 := by omega
  have n7 : l1 < 200 := by omega
  have n8 : l2 < 200 := by omega
  have HK := Lib.hid (And.intro hk1 (And.intro hk2 (And.intro hl1 (And.intro hl2 (And.intro hm hq)))))
  clear hk1 hk2 hl1 hl2 hm hq
  go_enter Tryz.func319, Tryz.ntmps319
  go_wp2_with fail
  go_loop [1, 4] (fun uv iv => uv = .int .u64 i ∧ iv = .int .i64 4) (fun _ _ => 0)
  case atStart => exact ⟨rfl, rfl⟩
  case round =>
    obtain ⟨rfl, rfl⟩ := hrel
    go_wp2_with fail
    go_region
    go_wp2_with fail
    go_region
    go_wp2_with fail
    go_end0
    obtain ⟨r1, r2, r3, r4, r5⟩ := base10_world4 w b _ _ _ _ (hc 0 (by decide)) (hc 1 (by decide)) (hc 2 (by decide)) (hc 3 (by decide)) (UInt8.toNat_lt _) (UInt8.toNat_lt _) (UInt8.toNat_lt _) (UInt8.toNat_lt _) _ rfl
    obtain ⟨a1, a2, a3, a4, a5, a6⟩ := HK.out
    refine ⟨rfl, r1, ?_, ?_, ?_, ?_⟩
    · rw [r2, ← a6]
      subst a4; subst a3; subst a2; subst a1
      clear HK e4 e5 e9 e10 i5 i6 i8 n5 n6 n7 n8 e1 e2 a5 a6 r1 r2 r3 r4 r5 hm1
      try (rename_i hK; clear hK)
      revert i7; revert hq1; revert q
      decide +kernel
    · rw [r3, ← a6]
      subst a4; subst a3; subst a2; subst a1
      clear HK e4 e5 e9 e10 i5 i6 i7 n5 n6 n7 n8 e1 e2 a5 a6 r1 r2 r3 r4 r5 hm1
      try (rename_i hK; clear hK)
      revert i8; revert hq1; revert q
      decide +kernel
    · rw [r4, ← a5]
      subst a4; subst a3; subst a2; subst a1
      clear HK e4 e5 e9 e10 i6 i7 i8 n5 n6 n7 n8 e1 e2 a5 a6 r1 r2 r3 r4 r5 hq1
      try (rename_i hK; clear hK)
      revert i5; revert hm1; revert m
      decide +kernel
    · rw [r5, ← a5]
      subst a4; subst a3; subst a2; subst a1
      clear HK e4 e5 e9 e10 i5 i7 i8 n5 n6 n7 n8 e1 e2 a5 a6 r1 r2 r3 r4 r5 hq1
      try (rename_i hK; clear hK)
      revert i6; revert hm1; revert m
      decide +kernel
/-- The decimal text of a number below 2000. -/
def nTx (i : Nat) : List Nat := if i < 1000 then numTx i else [48 + i / 100 / 10, 48 + i / 100 % 10, 48 + i % 100 / 10, 48 + i % 100 % 10]
set_option maxRecDepth 100000 in
set_option maxHeartbeats 4000000 in
theorem sc_AppendUint2 (z : Value) (pre : List Nat) (i : Nat) (w : World) (hz : Ls .u8 256 w z pre) (hi : i < 2000) (hpre : pre.length ≤ 1000000) (hg : Glob w) :
    Calls Tryz.prog 306 #[z, .int .u64 i, .int .i64 10] w fun e w' => ∃ r, e = .returned r ∧ App .u8 256 w w' z r (pre ++ nTx i) := by
  by_cases h : i < 1000
  · have := sc_AppendUint z pre i w hz h hpre hg
    unfold nTx; rw [if_pos h]; exact this
  · obtain ⟨ci, hi1, hi2, hi3, hi4⟩ := info_of info5
    have h17 := hg.size
    have HZ := Lib.hid hz
    have i1 : ¬ (i : Int) < 100 := by omega
    have HW : Hid (∀ W, W = w.alloc (.cells #[.int .u8 0, .int .u8 0, .int .u8 0, .int .u8 0, .int .u8 0, .int .u8 0, .int .u8 0, .int .u8 0, .int .u8 0, .int .u8 0, .int .u8 0, .int .u8 0, .int .u8 0, .int .u8 0, .int .u8 0, .int .u8 0, .int .u8 0, .int .u8 0, .int .u8 0, .int .u8 0, .int .u8 0, .int .u8 0, .int .u8 0, .int .u8 0] 342) → Chg No w W ∧ Plain W w.heap.size ∧ (∀ j, j < 4 → IsB W w.heap.size j)) := by
      apply Lib.hid
      rintro W rfl
      refine ⟨(Chg.refl No w).alloc _, Plain.new _ _ _, fun j hj => ⟨0, by decide, ?_⟩⟩
      rw [World.cell?_alloc_new]
      obtain rfl | rfl | rfl | rfl : j = 0 ∨ j = 1 ∨ j = 2 ∨ j = 3 := by omega
      · rfl
      · rfl
      · rfl
      · rfl
    have hn : nTx i = [48 + i / 100 / 10, 48 + i / 100 % 10, 48 + i % 100 / 10, 48 + i % 100 % 10] := by unfold nTx; rw [if_neg h]
    have HN := Lib.hid hn
    have HG := Lib.hid hg
    have hi0 : 1000 ≤ i := by omega
    clear hn hz hg h
    go_enter Tryz.func306, Tryz.ntmps306
    go_wp2_with fail
    generalize hWe : w.alloc (.cells #[.int .u8 0, .int .u8 0, .int .u8 0, .int .u8 0, .int .u8 0, .int .u8 0, .int .u8 0, .int .u8 0, .int .u8 0, .int .u8 0, .int .u8 0, .int .u8 0, .int .u8 0, .int .u8 0, .int .u8 0, .int .u8 0, .int .u8 0, .int .u8 0, .int .u8 0, .int .u8 0, .int .u8 0, .int .u8 0, .int .u8 0, .int .u8 0] 342) = W
    obtain ⟨w1, w2, w3⟩ := HW.out W hWe.symm
    have H1 := Lib.hid (sc_numDigits4 i W (HG.out.no w1) hi0 hi)
    have H2 := Lib.hid (sc_base10_4 i w.heap.size 24 W hi0 hi w2 w3)
    have HC1 := Lib.hid (And.intro w1 w3)
    clear HW hWe w1 w2 w3
    refine H1.out.mono ?_
    rintro e w' ⟨rfl, rfl⟩
    go_wp2_with fail
    refine H2.out.mono ?_
    rintro e W2 ⟨rfl, b1, b2, b3, b4, b5⟩
    have HA0 := Lib.hid (((App.refl HZ.out).no HC1.out.1).step b1 (fun y o f g => by have := (HZ.out.fp_lt g).1; have := f.1; omega) (fun y o hy f => by have := f.1; omega))
    have HB := Lib.hid (fun j hj => b1.isB _ _ (HC1.out.2 j hj))
    have HV := Lib.hid (And.intro b2 (And.intro b3 (And.intro b4 b5)))
    clear b1 b2 b3 b4 b5
    go_wp2_with (refine wpList_appS (w0 := w) (z0 := z) (l := pre) (vs := nTx i) (mb := w.heap.size) (mo := 0) (n := 4) (mc := 24) rfl (.tmp 24) (.tmp 26) rfl rfl rfl ?_ HA0.out ?_ ?_ ?_ ?_ h17 ?_; (rw [HN.out]; rfl); (rw [HN.out]; intro v hv; simp at hv; omega); (intro j hj; rw [Nat.zero_add]; have hj3 : j < 4 := (by rw [HN.out] at hj; exact hj); rw [(HB.out j hj3).cell]; obtain rfl | rfl | rfl | rfl : j = 0 ∨ j = 1 ∨ j = 2 ∨ j = 3 := (by omega); (simp only [HN.out]; rw [HV.out.1]; rfl); (simp only [HN.out]; rw [HV.out.2.1]; rfl); (simp only [HN.out]; rw [HV.out.2.2.1]; rfl); (simp only [HN.out]; rw [HV.out.2.2.2]; rfl)); (rw [HN.out]; simp); (rw [HN.out]; simp; omega); intro r w5 ha; have HA := Lib.hid ha; clear ha)
    go_ret
    exact ⟨_, rfl, HA.out⟩
/-- The decimal text of a number above -2000 and below 2000. -/
def iTx (i : Int) : List Nat := (if i < 0 then [45] else []) ++ nTx i.natAbs
set_option maxRecDepth 100000 in
set_option maxHeartbeats 2000000 in
theorem sc_AppendInt2 (z : Value) (pre : List Nat) (i : Int) (w : World) (hz : Ls .u8 256 w z pre) (hi1 : -2000 < i) (hi2 : i < 2000) (hpre : pre.length ≤ 900000) (hg : Glob w) :
    Calls Tryz.prog 246 #[z, .int .i64 i, .int .i64 10] w fun e w' => ∃ r, e = .returned r ∧ App .u8 256 w w' z r (pre ++ iTx i) := by
  have H : Calls Tryz.prog 285 #[z, .int .i64 i, .int .i64 10] w fun e w' => ∃ r, e = .returned r ∧ App .u8 256 w w' z r (pre ++ iTx i) := by
    have h17 := hg.size
    by_cases hs : i < 0
    · obtain ⟨k, hk⟩ : ∃ k : Nat, k = i.natAbs := ⟨_, rfl⟩
      have hik : i = -(k : Int) := by omega
      have A0 := Lib.hid (App.refl hz)
      have HT : Hid (iTx i = [45] ++ nTx k) := Lib.hid (by unfold iTx; rw [if_pos hs, hk])
      have HU := Lib.hid fun (z3 : Value) (w3 : World) (h1 : App .u8 256 w w3 z z3 (pre ++ [45])) => sc_AppendUint2 z3 (pre ++ [45]) k w3 h1.ls (by omega) (by simp; omega) (hg.chg h1.chg (fun b o f => (hz.fp_lt f).2))
      have e1 : IntKind.u64.wrap (-IntKind.u64.wrap i) = (k : Int) := by rw [IntKind.wrap_u64, IntKind.wrap_u64]; omega
      have hpl : pre.length < 4000000000 := by omega
      clear hz hg hik hk hpre
      go_enter Tryz.func285, Tryz.ntmps285
      go_wp2_with (at_builtin; refine wpList_app1 (w0 := w) (z0 := z) (l := pre) (c := 45) rfl (.tmp 12) (.tmp 13) rfl rfl rfl A0.out (by omega) hpl h17 ?_; intro z3 w3 ha; have HA := Lib.hid ha; have HU3 := Lib.hid (HU.out z3 w3 ha); clear ha)
      refine HU3.out.mono ?_
      rintro e w1 ⟨r, rfl, ha⟩
      have HA2 := Lib.hid ha
      clear ha
      go_wp2_with fail
      go_ret
      exact ⟨_, rfl, by rw [HT.out, ← List.append_assoc]; exact HA.out.trans HA2.out⟩
    · obtain ⟨k, rfl⟩ : ∃ k : Nat, i = (k : Int) := ⟨i.toNat, by omega⟩
      have HT : Hid (iTx k = nTx k) := Lib.hid (by unfold iTx; rw [if_neg hs]; rfl)
      have HU := Lib.hid (sc_AppendUint2 z pre k w hz (by omega) (by omega) hg)
      have e1 : IntKind.u64.wrap (k : Int) = (k : Int) := IntWalk.u64_in _ (by omega)
      clear hz hg
      go_enter Tryz.func285, Tryz.ntmps285
      go_wp2_with fail
      refine HU.out.mono ?_
      rintro e w1 ⟨r, rfl, ha⟩
      have HA2 := Lib.hid ha
      clear ha
      go_wp2_with fail
      go_ret
      exact ⟨_, rfl, by rw [HT.out]; exact HA2.out⟩
  have HH := Lib.hid H
  clear H hz hg
  go_enter Tryz.func246, Tryz.ntmps246
  go_wp2_with fail
  refine HH.out.mono ?_
  rintro e w1 ⟨r, rfl, ha⟩
  have HA := Lib.hid ha
  clear ha
  go_wp2_with fail
  go_ret
  exact ⟨_, rfl, HA.out⟩
/-- The figures of format b: the mantissa in base 10, the exponent of 2. -/
def bTx (ds : List Nat) (e : Int) : List Nat := asc ds ++ [112] ++ (if 0 ≤ e then [43] else []) ++ iTx e
theorem TxM.cells {w : World} {sb so sc : Nat} {ds : List Nat} (h : TxM w sb so sc ds) : ∀ j (hj : j < (asc ds).length), w.cell? ⟨sb, so + j, none⟩ = some (.int .u8 ((asc ds)[j] : Nat)) := fun j hj => by
  have hj' : j < ds.length := by rw [asc_length] at hj; exact hj
  have h1 := (h.nb.isI j (by have := h.nb.le; omega)).cell
  rw [h.dig j hj'] at h1
  have h2 : (asc ds)[j] = 48 + ds.getD j 0 := by simp [asc, List.getD_eq_getElem?_getD, List.getElem?_eq_getElem hj']
  rw [h2]; exact h1
set_option maxRecDepth 100000 in
set_option maxHeartbeats 4000000 in
theorem float_fmtB (base b P M : Nat) (n : Bool) (X : Nat) (E : Int) (xb xo m xc : Nat) (buf : Value) (pre : List Nat) (w : World) (h : FlX w base b P M n X E xb xo m xc) (hz : Ls .u8 256 w buf pre) (hpre : pre.length ≤ 501) (hm : m ≤ 100) (hP : blen X ≤ P) (hP2 : P ≤ 1000)
    (hE1 : -1900 ≤ E + blen X - P) (hE2 : E + blen X - P ≤ 1900) (hE3 : -10000 ≤ E) (hE4 : E ≤ 10000) (hd : ∀ x o, Fp buf x o → x ≠ b ∧ x ≠ xb) (hg : Glob w) :
    Calls Tryz.prog 190 #[.pointer (some ⟨b, 0, none⟩), buf] w fun e w' => ∃ r, e = .returned r ∧ ∃ ds, Nd ds = X * 2 ^ (P - blen X) ∧ (∀ d ∈ ds, d < 10) ∧ 0 < ds.length ∧ ds.getD 0 0 ≠ 0 ∧ App .u8 256 w w' buf r (pre ++ bTx ds (E + blen X - P)) := by
  have hX0 := h.X0
  have h17 := hg.size
  obtain ⟨Y, hY⟩ : ∃ Y, Y = X * 2 ^ (P - blen X) := ⟨_, rfl⟩
  have hi := h.hi
  have hm0 := h.m0
  have hY0 : Y ≠ 0 := by rw [hY]; exact Nat.mul_ne_zero hX0 (Nat.pos_iff_ne_zero.1 (Nat.two_pow_pos _))
  have hYb : Y < 2 ^ P := by
    have h1 := (blen_spec hX0).2.2
    rw [hY]
    have h2 : 2 ^ P = 2 ^ blen X * 2 ^ (P - blen X) := by rw [← Nat.pow_add]; congr 1; omega
    rw [h2]
    exact Nat.mul_lt_mul_of_pos_right h1 (Nat.two_pow_pos _)
  have hYB : blen Y ≤ P := blen_le hY0 hYb
  have hSm : ∀ {Z : Nat}, Z < WB ^ m → Small Z := fun {Z} hZ => by
    unfold Small
    obtain ⟨T, hT⟩ : ∃ T : Nat, T = 1000 := ⟨_, rfl⟩
    rw [← hT]
    exact Nat.lt_of_lt_of_le hZ (Nat.pow_le_pow_right WB_pos (by omega))
  have hU := upTo_lt hX0 hi
  have HU := Lib.hid (hSm hU)
  have hN0 : Nt w (.slice (some ⟨xb, xo, none⟩) m xc) (upTo X m) := h.nt.nt
  have HN0 := Lib.hid hN0
  have HUY : Hid ((64 * m < P → upTo X m * 2 ^ (P - 64 * m) = Y) ∧ (P < 64 * m → upTo X m / 2 ^ (64 * m - P) = Y) ∧ (64 * m = P → upTo X m = Y)) := by
    refine Lib.hid ⟨fun h1 => ?_, fun h1 => ?_, fun h1 => ?_⟩
    · unfold upTo; rw [hY, Nat.mul_assoc, ← Nat.pow_add]; congr 2; omega
    · unfold upTo; rw [hY, show 64 * m - blen X = (P - blen X) + (64 * m - P) by omega, Nat.pow_add, ← Nat.mul_assoc, Nat.mul_div_cancel _ (Nat.two_pow_pos _)]
    · unfold upTo; rw [hY, h1]
  have HB := Lib.hid (itoaOk_big hY0 (by omega))
  have HYb := Lib.hid hYb
  have HF := Lib.hid h
  have HZ := Lib.hid hz
  have HY := Lib.hid hY
  have HG := Lib.hid hg
  have HD := Lib.hid hd
  have hE := h.fl
  obtain ⟨EE, hEE⟩ : ∃ EE : Int, EE = E + blen X - P := ⟨_, rfl⟩
  obtain ⟨XE, hXE⟩ : ∃ XE : Int, XE = blen X + E := ⟨_, rfl⟩
  rw [← hXE] at hE
  have hXEE : XE - (P : Int) = EE := by omega
  rw [← hEE] at hE1 hE2 ⊢
  have HFl := Lib.hid hE
  obtain ⟨c0, c1, c2, c3, c4, c5, c6, -, -, -, -, -⟩ := hE
  have hXb : -20000 ≤ XE ∧ XE ≤ 20000 := by omega
  have em : IntKind.u32.wrap (m : Int) = (m : Int) := by rw [IntKind.wrap_u32]; omega
  have em2 : IntKind.u32.wrap ((m : Int) * 64) = (m : Int) * 64 := by rw [IntKind.wrap_u32]; omega
  clear h hz hN0 hX0 hY hi hY0 hYb hYB hU hSm hd hg hEE hXE hP hE3 hE4
  go_enter Tryz.func190, Tryz.ntmps190
  go_upto_block 0 with fail
  go_cut [5] (fun mv wx => Hid (Nt wx mv Y) ∧ Hid (Chg No w wx))
  case first =>
    rcases Nat.lt_trichotomy (64 * m) P with hlt | heq | hgt
    · obtain ⟨s, hs⟩ : ∃ s, s = P - 64 * m := ⟨_, rfl⟩
      have t1 : decide ((m : Int) * 64 < (P : Int)) = true := decide_eq_true (by omega)
      have t1' : (m : Int) * 64 < (P : Int) := by omega
      have es : (P : Int) - (m : Int) * 64 = (s : Int) := by omega
      have HL := Lib.hid (nat_lsh (.slice none 0 0) _ (upTo X m) s w (.inl rfl) HN0.out HU.out (by omega) (fun h => by omega) (.inr (fun _ _ _ _ f => f.elim)) h17)
      rw [hs, HUY.out.1 hlt, ← hs] at HL
      clear hs
      go_wp2_with fail
      refine HL.out.mono ?_
      rintro e w2 ⟨r, rfl, hr⟩
      have HR := Lib.hid hr
      clear hr
      go_wp2_with fail
      go_meet
      exact ⟨Lib.hid HR.out.nt, Lib.hid HR.out.chg⟩
    · have t1 : ¬ (m : Int) * 64 < (P : Int) := by omega
      have t2 : ¬ (P : Int) < (m : Int) * 64 := by omega
      go_wp2_with fail
      go_meet
      exact ⟨Lib.hid (by rw [← HUY.out.2.2 heq]; exact HN0.out), Lib.hid (Chg.refl _ _)⟩
    · obtain ⟨s, hs⟩ : ∃ s, s = 64 * m - P := ⟨_, rfl⟩
      have t1 : ¬ (m : Int) * 64 < (P : Int) := by omega
      have t2 : (P : Int) < (m : Int) * 64 := by omega
      have es : (m : Int) * 64 - (P : Int) = (s : Int) := by omega
      have HL := Lib.hid (nat_rsh (.slice none 0 0) _ (upTo X m) s w (.inl rfl) HN0.out HU.out (by omega) (fun h => by omega) (.inr (fun _ _ _ _ f => f.elim)) h17)
      rw [hs, HUY.out.2.1 hgt, ← hs] at HL
      clear hs
      go_wp2_with fail
      refine HL.out.mono ?_
      rintro e w2 ⟨r, rfl, hr⟩
      have HR := Lib.hid hr
      clear hr
      go_wp2_with fail
      go_meet
      exact ⟨Lib.hid HR.out.nt, Lib.hid HR.out.chg⟩
  case rest =>
  obtain ⟨hN, hK⟩ := hcut
  generalize wc = wa at *
  have HUT := Lib.hid (utoa_ok u5 Y wa HB.out hN.out (HG.out.no hK.out))
  clear c0 c1 c2 c3 c4 c5 c6 HN0 HUY HU
  go_wp2_with fail
  refine HUT.out.mono ?_
  rintro e w3 ⟨sb, so, sc, ds, rfl, htx, hnd, hd0, hd1, hsb, hk3⟩
  have hK3 := hK.out.then hk3 (fun _ _ _ f => f)
  have A3 := Lib.hid ((App.refl HZ.out).no hK3)
  have HTX := Lib.hid htx
  have HDS := Lib.hid (And.intro hnd (And.intro htx.d10 (And.intro hd0 hd1)))
  have hcl := htx.cells
  have HCL := Lib.hid hcl
  have hal := asc_lt htx.d10
  have HAL := Lib.hid hal
  have hdl : ds.length ≤ 1001 := by
    have h1 := Nd_ge hd0 hd1
    rw [hnd] at h1
    have h2 : (2 : Nat) ^ (ds.length - 1) ≤ 10 ^ (ds.length - 1) := Nat.pow_le_pow_left (by decide) _
    have h3 := HYb.out
    have h4 := (Nat.pow_lt_pow_iff_right (by decide : 1 < 2)).1 (Nat.lt_of_le_of_lt (Nat.le_trans h2 h1) h3)
    omega
  have hl1 : ds.length = (asc ds).length := (asc_length ds).symm
  have HL1 := Lib.hid hl1
  have hl2 : 0 < (asc ds).length := by rw [← hl1]; exact hd0
  obtain ⟨L, hL⟩ : ∃ L, L = ds.length := ⟨_, rfl⟩
  rw [← hL]
  rw [← hL] at hdl
  have HL := Lib.hid hL
  have hb1 : pre.length + (asc ds).length < 4000000000 := by rw [← hl1, ← hL]; omega
  clear htx hnd hd0 hd1 hk3 hK3 hcl hal hl1 hL
  go_upto_region 12 with (refine wpList_appS (w0 := w) (z0 := buf) (l := pre) (vs := asc ds) (mb := sb) (mo := so) (n := L) (mc := sc) rfl (.tmp 67) (.tmp 69) rfl rfl rfl (by rw [HL.out]; exact HL1.out) A3.out HAL.out HCL.out hl2 hb1 h17 ?_; intro r4 w4 ha; have HA4 := Lib.hid ha; clear ha)
  go_upto_region 13 with (refine wpList_app1 (w0 := w) (z0 := buf) (l := pre ++ asc ds) (c := 112) rfl (.tmp 71) (.tmp 72) rfl rfl rfl HA4.out (by omega) (by simp; omega) h17 ?_; intro r5 w5 ha; have HA5 := Lib.hid ha; clear ha)
  have hF5 := HFl.out.chg HA5.out.chg (fun o f => (HD.out b o f).1 rfl)
  have c0 := hF5.c0
  have c6 := hF5.c6
  have c0d : w5.drew.cell? ⟨b, 0, none⟩ = _ := c0
  have c6d : w5.drew.cell? ⟨b, 6, none⟩ = _ := c6
  have eX : IntKind.i64.wrap XE = XE := IntWalk.i64_in _ (by omega)
  have eP : IntKind.i64.wrap (P : Int) = (P : Int) := IntWalk.i64_in _ (by omega)
  have eEE : IntKind.i64.wrap EE = EE := IntWalk.i64_in _ (by omega)
  have HA6 := Lib.hid (HA5.out.no ((Chg.refl No w5).drew))
  clear hF5
  go_region_held3 (fun W => W.cell? ⟨b, 0, none⟩ = some (.int .u32 P) ∧ W.cell? ⟨b, 6, none⟩ = some (.int .i32 XE)) (first | assumption | exact ⟨c0, c6⟩) (fail)
  all_goals
    clear c0 c6 c0d c6d
    have hal2 : (asc ds).length ≤ 1001 := by rw [← HL1.out, ← HL.out]; exact hdl
    have hg5 : Glob w5.drew := HG.out.chg HA6.out.chg (fun x o f => (HZ.out.fp_lt f).2)
    have HG5 := Lib.hid hg5
    clear hg5 eX eP
    generalize w5.drew = w6 at *
    by_cases hs : 0 ≤ EE
    · have HT : Hid (bTx ds EE = asc ds ++ [112] ++ [43] ++ iTx EE) := Lib.hid (by unfold bTx; rw [if_pos hs])
      have HU := Lib.hid fun (z7 : Value) (w7 : World) (h1 : App .u8 256 w w7 buf z7 (pre ++ asc ds ++ [112] ++ [43])) => sc_AppendInt2 z7 _ EE w7 h1.ls (by omega) (by omega) (by simp; omega) (HG.out.chg h1.chg (fun x o f => (HZ.out.fp_lt f).2))
      go_upto_region 16 with (refine wpList_app1 (w0 := w) (z0 := buf) (l := pre ++ asc ds ++ [112]) (c := 43) rfl (.tmp 87) (.tmp 88) rfl rfl rfl HA6.out (by omega) (by simp; omega) h17 ?_; intro r7 w7 ha; have HA7 := Lib.hid ha; clear ha)
      have HU7 := Lib.hid (HU.out _ _ HA7.out)
      go_wp2_with fail
      refine HU7.out.mono ?_
      rintro e w8 ⟨r8, rfl, ha⟩
      have HA8 := Lib.hid ha
      clear ha
      go_wp2_with fail
      go_ret
      refine ⟨_, rfl, ds, by rw [← HY.out]; exact HDS.out.1, HDS.out.2.1, HDS.out.2.2.1, HDS.out.2.2.2, ?_⟩
      rw [HT.out]
      have := HA7.out.trans HA8.out
      simpa [List.append_assoc] using this
    · have HT : Hid (bTx ds EE = asc ds ++ [112] ++ iTx EE) := Lib.hid (by unfold bTx; rw [if_neg hs, List.append_nil])
      have HU := Lib.hid (sc_AppendInt2 r5 _ EE w6 HA6.out.ls (by omega) (by omega) (by simp; omega) HG5.out)
      go_wp2_with fail
      refine HU.out.mono ?_
      rintro e w8 ⟨r8, rfl, ha⟩
      have HA8 := Lib.hid ha
      clear ha
      go_wp2_with fail
      go_ret
      refine ⟨_, rfl, ds, by rw [← HY.out]; exact HDS.out.1, HDS.out.2.1, HDS.out.2.2.1, HDS.out.2.2.2, ?_⟩
      rw [HT.out]
      have := HA6.out.trans HA8.out
      simpa [List.append_assoc] using this
end Go.Proofs.YtacfhndledcmgaaGreatDoor
