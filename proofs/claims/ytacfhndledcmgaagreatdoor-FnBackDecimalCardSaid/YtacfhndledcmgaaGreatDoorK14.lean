/- Lemmas for the law FnBackDecimal: strconv.AppendInt of small numbers. Conditions: those in each theorem; none besides. -/
import Derived.Test.YtacfhndledcmgaaGreatDoorK10
import Derived.Test.YtacfhndledcmgaaGreatDoorK11
set_option linter.unusedVariables false
set_option linter.unusedSimpArgs false
namespace Go.Proofs.YtacfhndledcmgaaGreatDoor
open Go.RowKit
/-- The figures of a small number. -/
def smallTx (i : Nat) : List Nat := if i < 10 then [48 + i] else [48 + i / 10, 48 + i % 10]
theorem ret_str {a b : ByteArray} (h : a = b) : Ending.returned (.string a) = .returned (.string b) := by rw [h]
set_option maxRecDepth 100000 in
set_option maxHeartbeats 1000000 in
theorem sc_small (i : Nat) (w : World) (h : i < 100) : Calls Tryz.prog 317 #[.int .i64 i] w fun e w' => e = .returned (.string (txt (smallTx i))) ∧ w = w' := by
  by_cases h1 : i < 10
  · have i1 : (i : Int) < 10 := by omega
    go_enter Tryz.func317, Tryz.ntmps317
    go_wp2_with fail
    go_ret
    refine ⟨ret_str ?_, rfl⟩
    clear i1
    try (rename_i hK; clear hK)
    revert h1; revert h; revert i
    decide +kernel
  · have i1 : ¬ (i : Int) < 10 := by omega
    go_enter Tryz.func317, Tryz.ntmps317
    go_wp2_with fail
    go_ret
    refine ⟨ret_str ?_, rfl⟩
    clear i1
    try (rename_i hK; clear hK)
    revert h1; revert h; revert i
    decide +kernel
theorem sc_log10 (x r : Nat) (w : World) (hx : x ≤ 64) (hr : x * 78913 / 262144 = r) : Calls Tryz.prog 331 #[.int .i64 x] w fun e w' => e = .returned (.int .i64 r) ∧ w = w' := by
  obtain ⟨y, hy⟩ : ∃ y, y = x * 78913 := ⟨_, rfl⟩
  have e1 : (x : Int) * 78913 = (y : Int) := by omega
  have e2 : (y : Int) / 262144 = (r : Int) := by omega
  have hy1 : y ≤ 6000000 := by omega
  clear hr hy
  go_enter Tryz.func331, Tryz.ntmps331
  go_wp2_with fail
  go_ret
  first | exact ⟨rfl, rfl⟩ | exact ⟨by rw [← e2]; rfl, rfl⟩
theorem sc_bool2 (b : Bool) (w : World) : Calls Tryz.prog 332 #[.bool b] w fun e w' => e = .returned (.int .i64 (if b then 1 else 0)) ∧ w = w' := by
  cases b
  · go_enter Tryz.func332, Tryz.ntmps332
    go_wp2_with fail
    go_ret
    exact ⟨rfl, rfl⟩
  · go_enter Tryz.func332, Tryz.ntmps332
    go_wp2_with fail
    go_ret
    exact ⟨rfl, rfl⟩
set_option maxRecDepth 100000 in
set_option maxHeartbeats 1000000 in
theorem sc_numDigits (i : Nat) (w : World) (hg : Glob w) (h1 : 100 ≤ i) (h : i < 1000) : Calls Tryz.prog 318 #[.int .u64 i] w fun e w' => e = .returned (.int .i64 3) ∧ w = w' := by
  have hb : Lib.bitLen i = 7 ∨ Lib.bitLen i = 8 ∨ Lib.bitLen i = 9 ∨ Lib.bitLen i = 10 := by
    revert h1; revert h; clear hg; revert i; decide +kernel
  have H := Lib.hid (Tryz.bits_Len64 (i : Int) w (by omega) (by omega))
  rw [Int.toNat_natCast] at H
  have t2 : w.cell? ⟨14, 2, none⟩ = some (.int .u64 100) := hg.cell 14 2 _ rfl
  have t3 : w.cell? ⟨14, 3, none⟩ = some (.int .u64 1000) := hg.cell 14 3 _ rfl
  have hk : ∃ L r : Nat, Lib.bitLen i = L ∧ L ≤ 64 ∧ L * 78913 / 262144 = r ∧ ((r = 2) ∨ (r = 3)) := by
    rcases hb with hb | hb | hb | hb
    · exact ⟨7, 2, hb, by decide, by decide, .inl rfl⟩
    · exact ⟨8, 2, hb, by decide, by decide, .inl rfl⟩
    · exact ⟨9, 2, hb, by decide, by decide, .inl rfl⟩
    · exact ⟨10, 3, hb, by decide, by decide, .inr rfl⟩
  obtain ⟨L, r, hL, hL64, hr, hr2⟩ := hk
  rw [hL] at H
  have H2 := Lib.hid (sc_log10 L r w hL64 hr)
  clear hb hL hr hL64 hg
  rcases hr2 with rfl | rfl
  · have H3 := Lib.hid (sc_bool2 true w)
    have d1 : decide (100 ≤ i) = true := decide_eq_true h1
    have i1 : (100 : Int) ≤ (i : Int) := by omega
    have d2 : decide ((100 : Int) ≤ (i : Int)) = true := decide_eq_true i1
    go_enter Tryz.func318, Tryz.ntmps318
    go_wp2_with fail
    refine H.out.mono ?_
    rintro e w1 ⟨rfl, rfl⟩
    go_wp2_with fail
    refine H2.out.mono ?_
    rintro e w1 ⟨rfl, rfl⟩
    go_wp2_with fail
    refine H3.out.mono ?_
    rintro e w1 ⟨rfl, rfl⟩
    go_wp2_with fail
    go_ret
    exact ⟨rfl, rfl⟩
  · have H3 := Lib.hid (sc_bool2 false w)
    have d1 : decide (1000 ≤ i) = false := decide_eq_false (by omega)
    have i1 : ¬ (1000 : Int) ≤ (i : Int) := by omega
    have d2 : decide ((1000 : Int) ≤ (i : Int)) = false := decide_eq_false i1
    go_enter Tryz.func318, Tryz.ntmps318
    go_wp2_with fail
    refine H.out.mono ?_
    rintro e w1 ⟨rfl, rfl⟩
    go_wp2_with fail
    refine H2.out.mono ?_
    rintro e w1 ⟨rfl, rfl⟩
    go_wp2_with fail
    refine H3.out.mono ?_
    rintro e w1 ⟨rfl, rfl⟩
    go_wp2_with fail
    go_ret
    exact ⟨rfl, rfl⟩
theorem base10_world (w : World) (b v0 v1 v2 : Nat) (h0 : IsB w b 0) (h1 : IsB w b 1) (h2 : IsB w b 2) (g0 : v0 < 256) (g1 : v1 < 256) (g2 : v2 < 256) :
    ∀ W, W = (((w.setCell ⟨b, 2, none⟩ (.int .u8 (v2 : Nat))).setCell ⟨b, 1, none⟩ (.int .u8 (v1 : Nat))).setCell ⟨b, 0, none⟩ (.int .u8 (v0 : Nat))).drew → Chg (Rng b 0 3) w W ∧ wd W b 0 = v0 ∧ wd W b 1 = v1 ∧ wd W b 2 = v2 := by
  rintro W rfl
  have k1 := (Chg.refl (Rng b 0 3) w).setB h2 g2 (fun _ => ⟨rfl, by omega, by omega⟩)
  have b1 := k1.isB _ _ h1
  have k2 := k1.setB b1 g1 (fun _ => ⟨rfl, by omega, by omega⟩)
  have b0 := k2.isB _ _ h0
  have k3 := k2.setB b0 g0 (fun _ => ⟨rfl, by omega, by omega⟩)
  refine ⟨k3.drew, wd_setCell_same b0.cell, ?_, ?_⟩
  · exact (wd_setCell_ne (.inr (by decide))).trans (wd_setCell_same b1.cell)
  · exact (wd_setCell_ne (.inr (by decide))).trans ((wd_setCell_ne (.inr (by decide))).trans (wd_setCell_same h2.cell))
instance depDec {p : Prop} [Decidable p] {q : p → Prop} [h : ∀ hp, Decidable (q hp)] : Decidable (∀ hp, q hp) :=
  if hp : p then (match h hp with
    | .isTrue y => .isTrue fun _ => y
    | .isFalse n => .isFalse fun f => n (f hp)) else .isTrue fun h => absurd h hp
set_option maxRecDepth 100000 in
set_option maxHeartbeats 1000000 in
theorem sc_base10 (i b c : Nat) (w : World) (h1 : 100 ≤ i) (h : i < 1000) (hb : Plain w b) (hc : ∀ j, j < 3 → IsB w b j) :
    Calls Tryz.prog 319 #[.slice (some ⟨b, 0, none⟩) 3 c, .int .u64 i] w fun e w' => e = .returned (.tuple #[]) ∧ Chg (Rng b 0 3) w w' ∧ wd w' b 0 = 48 + i / 100 ∧ wd w' b 1 = 48 + i % 100 / 10 ∧ wd w' b 2 = 48 + i % 100 % 10 := by
  have c0 := (hc 0 (by decide)).cell
  have c1 := (hc 1 (by decide)).cell
  have c2 := (hc 2 (by decide)).cell
  have f0 := hb.free 0
  have f1 := hb.free 1
  have f2 := hb.free 2
  obtain ⟨m, hm⟩ : ∃ m, m = i % 100 := ⟨_, rfl⟩
  obtain ⟨q, hq⟩ : ∃ q, q = i / 100 := ⟨_, rfl⟩
  have e1 : (i : Int) % 100 = (m : Int) := by omega
  have e2 : (i : Int) / 100 = (q : Int) := by omega
  have hm1 : m < 100 := by omega
  have hq1 : q < 10 := by omega
  have e0 : IntKind.u32.wrap (i : Int) = (i : Int) := IntWalk.u32_in _ (by omega)
  obtain ⟨k0, hk0⟩ : ∃ k0, k0 = 48 + q := ⟨_, rfl⟩
  have e3 : (48 : Int) + (q : Int) = (k0 : Int) := by omega
  have hk01 : k0 < 58 := by omega
  have i7 : (0 : Int) < 3 - 2 := by decide
  obtain ⟨k1, hk1⟩ : ∃ k1, k1 = m * 2 := ⟨_, rfl⟩
  obtain ⟨k2, hk2⟩ : ∃ k2, k2 = k1 + 1 := ⟨_, rfl⟩
  have e4 : (m : Int) * 2 = (k1 : Int) := by omega
  have e5 : (k1 : Int) + 1 = (k2 : Int) := by omega
  have i5 : (k1 : Int) < 200 := by omega
  have i6 : (k2 : Int) < 200 := by omega
  have n5 : k1 < 200 := by omega
  have n6 : k2 < 200 := by omega
  have HK := Lib.hid (And.intro hk1 (And.intro hk2 (And.intro hk0 (And.intro hm hq))))
  clear hk0 hk1 hk2 hm hq
  go_enter Tryz.func319, Tryz.ntmps319
  go_wp2_with fail
  go_loop [1, 4] (fun uv iv => uv = .int .u64 i ∧ iv = .int .i64 3) (fun _ _ => 0)
  case atStart => exact ⟨rfl, rfl⟩
  case round =>
    obtain ⟨rfl, rfl⟩ := hrel
    go_wp2_with fail
    go_region
    go_wp2_with fail
    go_end0
    obtain ⟨r1, r2, r3, r4⟩ := base10_world w b k0 _ _ (hc 0 (by decide)) (hc 1 (by decide)) (hc 2 (by decide)) (by omega) (UInt8.toNat_lt _) (UInt8.toNat_lt _) _ rfl
    obtain ⟨a1, a2, a3, a4, a5⟩ := HK.out
    refine ⟨rfl, r1, ?_, ?_, ?_⟩
    · rw [r2, a3, a5]
    · rw [r3, ← a4]
      subst a2; subst a1
      clear HK e4 n5 e5 i6 n6 e1 a4 r1 r2 r3 r4
      try (rename_i hK; clear hK)
      revert i5; revert hm1; revert m
      decide +kernel
    · rw [r4, ← a4]
      subst a2; subst a1
      clear HK e4 i5 e5 n6 n5 e1 a4 r1 r2 r3 r4
      try (rename_i hK; clear hK)
      revert i6; revert hm1; revert m
      decide +kernel
/-- The figures of a number below 1000. -/
def numTx (i : Nat) : List Nat := if i < 100 then smallTx i else [48 + i / 100, 48 + i % 100 / 10, 48 + i % 100 % 10]
theorem smallTx_lt {i : Nat} (h : i < 100) : (∀ v ∈ smallTx i, v < 256) ∧ 0 < (smallTx i).length ∧ (smallTx i).length ≤ 2 := by
  unfold smallTx
  split
  · simp; omega
  · simp; omega
theorem Src.txt (W : World) (vs : List Nat) (h : ∀ v ∈ vs, v < 256) : Src Tryz.prog 1 9 (.string (txt vs)) vs.length (vs.map fun v : Nat => Value.int .u8 v) W := by
  have h1 := Src.ofString (P := Tryz.prog) W Tryz.underlying9 (Proofs.YtacfhndledcmgaaGreatDoor.txt vs)
  rw [txt_size] at h1
  have e : byteCells (Proofs.YtacfhndledcmgaaGreatDoor.txt vs) = vs.map fun v : Nat => Value.int .u8 v := by
    unfold byteCells Proofs.YtacfhndledcmgaaGreatDoor.txt
    simp only [List.map_map]
    apply List.map_congr_left
    intro v hv
    have := h v hv
    simp only [Function.comp]
    have e2 : (UInt8.ofNat v).toNat = v := by simp [UInt8.toNat_ofNat']; omega
    rw [e2]
  rw [e] at h1
  exact h1
set_option maxRecDepth 100000 in
set_option maxHeartbeats 2000000 in
theorem sc_AppendUint (z : Value) (pre : List Nat) (i : Nat) (w : World) (hz : Ls .u8 256 w z pre) (hi : i < 1000) (hpre : pre.length ≤ 1000000) (hg : Glob w) :
    Calls Tryz.prog 306 #[z, .int .u64 i, .int .i64 10] w fun e w' => ∃ r, e = .returned r ∧ App .u8 256 w w' z r (pre ++ numTx i) := by
  obtain ⟨ci, hi1, hi2, hi3, hi4⟩ := info_of info5
  have h17 := hg.size
  have HZ := Lib.hid hz
  by_cases h : i < 100
  · obtain ⟨s1, s2, s3⟩ := smallTx_lt h
    have HS := Lib.hid (sc_small i w h)
    have hn : numTx i = smallTx i := by unfold numTx; rw [if_pos h]
    have HN := Lib.hid hn
    have HSrc := Lib.hid (Src.txt w (smallTx i) s1)
    have HL := Lib.hid (And.intro s1 (And.intro s2 s3))
    have i1 : (i : Int) < 100 := by omega
    clear s1 s2 s3 hn hz
    go_enter Tryz.func306, Tryz.ntmps306
    go_wp2_with fail
    refine HS.out.mono ?_
    rintro e w1 ⟨rfl, rfl⟩
    go_wp2_with (refine wpList_append_num rfl km8 (.tmp 13) (.tmp 16) 56 9 5 rfl ci Tryz.underlying56 hi1 hi2 hi3 (by rw [hi4]; omega) z pre rfl HZ.out _ rfl (smallTx i) HSrc.out HL.out.1 HL.out.2.1 (by have := HL.out.2.2; omega) h17 ?_; intro r w' happ; have HA := Lib.hid happ; clear happ)
    go_ret
    exact ⟨_, rfl, by rw [HN.out]; exact HA.out⟩
  · have i1 : ¬ (i : Int) < 100 := by omega
    have HW : Hid (∀ W, W = w.alloc (.cells #[.int .u8 0, .int .u8 0, .int .u8 0, .int .u8 0, .int .u8 0, .int .u8 0, .int .u8 0, .int .u8 0, .int .u8 0, .int .u8 0, .int .u8 0, .int .u8 0, .int .u8 0, .int .u8 0, .int .u8 0, .int .u8 0, .int .u8 0, .int .u8 0, .int .u8 0, .int .u8 0, .int .u8 0, .int .u8 0, .int .u8 0, .int .u8 0] 342) → Chg No w W ∧ Plain W w.heap.size ∧ (∀ j, j < 3 → IsB W w.heap.size j)) := by
      apply Lib.hid
      rintro W rfl
      refine ⟨(Chg.refl No w).alloc _, Plain.new _ _ _, fun j hj => ⟨0, by decide, ?_⟩⟩
      rw [World.cell?_alloc_new]
      obtain rfl | rfl | rfl : j = 0 ∨ j = 1 ∨ j = 2 := by omega
      · rfl
      · rfl
      · rfl
    have hn : numTx i = [48 + i / 100, 48 + i % 100 / 10, 48 + i % 100 % 10] := by unfold numTx; rw [if_neg h]
    have HN := Lib.hid hn
    have HG := Lib.hid hg
    have hi0 : 100 ≤ i := by omega
    clear hn hz hg
    go_enter Tryz.func306, Tryz.ntmps306
    go_wp2_with fail
    generalize hWe : w.alloc (.cells #[.int .u8 0, .int .u8 0, .int .u8 0, .int .u8 0, .int .u8 0, .int .u8 0, .int .u8 0, .int .u8 0, .int .u8 0, .int .u8 0, .int .u8 0, .int .u8 0, .int .u8 0, .int .u8 0, .int .u8 0, .int .u8 0, .int .u8 0, .int .u8 0, .int .u8 0, .int .u8 0, .int .u8 0, .int .u8 0, .int .u8 0, .int .u8 0] 342) = W
    obtain ⟨w1, w2, w3⟩ := HW.out W hWe.symm
    have H1 := Lib.hid (sc_numDigits i W (HG.out.no w1) hi0 hi)
    have H2 := Lib.hid (sc_base10 i w.heap.size 24 W hi0 hi w2 w3)
    have HC1 := Lib.hid (And.intro w1 w3)
    clear HW hWe w1 w2 w3
    refine H1.out.mono ?_
    rintro e w' ⟨rfl, rfl⟩
    go_wp2_with fail
    refine H2.out.mono ?_
    rintro e W2 ⟨rfl, b1, b2, b3, b4⟩
    have HA0 := Lib.hid (((App.refl HZ.out).no HC1.out.1).step b1 (fun y o f g => by have := (HZ.out.fp_lt g).1; have := f.1; omega) (fun y o hy f => by have := f.1; omega))
    have HB := Lib.hid (fun j hj => b1.isB _ _ (HC1.out.2 j hj))
    have HV := Lib.hid (And.intro b2 (And.intro b3 b4))
    clear b1 b2 b3 b4
    go_wp2_with (refine wpList_appS (w0 := w) (z0 := z) (l := pre) (vs := numTx i) (mb := w.heap.size) (mo := 0) (n := 3) (mc := 24) rfl (.tmp 24) (.tmp 26) rfl rfl rfl ?_ HA0.out ?_ ?_ ?_ ?_ h17 ?_; (rw [HN.out]; rfl); (rw [HN.out]; intro v hv; simp at hv; omega); (intro j hj; rw [Nat.zero_add]; have hj3 : j < 3 := (by rw [HN.out] at hj; exact hj); rw [(HB.out j hj3).cell]; obtain rfl | rfl | rfl : j = 0 ∨ j = 1 ∨ j = 2 := (by omega); (simp only [HN.out]; rw [HV.out.1]; rfl); (simp only [HN.out]; rw [HV.out.2.1]; rfl); (simp only [HN.out]; rw [HV.out.2.2]; rfl)); (rw [HN.out]; simp); (rw [HN.out]; simp; omega); intro r w5 ha; have HA := Lib.hid ha; clear ha)
    go_ret
    exact ⟨_, rfl, HA.out⟩
set_option maxRecDepth 100000 in
set_option maxHeartbeats 1000000 in
theorem sc_AppendIntI (z : Value) (pre : List Nat) (i : Nat) (w : World) (hz : Ls .u8 256 w z pre) (hi : i < 1000) (hpre : pre.length ≤ 1000000) (hg : Glob w) :
    Calls Tryz.prog 285 #[z, .int .i64 i, .int .i64 10] w fun e w' => ∃ r, e = .returned r ∧ App .u8 256 w w' z r (pre ++ numTx i) := by
  have H := Lib.hid (sc_AppendUint z pre i w hz hi hpre hg)
  have i1 : ¬ (i : Int) < 0 := by omega
  have e1 : IntKind.u64.wrap (i : Int) = (i : Int) := IntWalk.u64_in _ (by omega)
  clear hz hg
  go_enter Tryz.func285, Tryz.ntmps285
  go_wp2_with fail
  refine H.out.mono ?_
  rintro e w1 ⟨r, rfl, ha⟩
  have HA := Lib.hid ha
  clear ha
  go_wp2_with fail
  go_ret
  exact ⟨_, rfl, HA.out⟩
set_option maxRecDepth 100000 in
set_option maxHeartbeats 1000000 in
theorem sc_AppendInt (z : Value) (pre : List Nat) (i : Nat) (w : World) (hz : Ls .u8 256 w z pre) (hi : i < 1000) (hpre : pre.length ≤ 1000000) (hg : Glob w) :
    Calls Tryz.prog 246 #[z, .int .i64 i, .int .i64 10] w fun e w' => ∃ r, e = .returned r ∧ App .u8 256 w w' z r (pre ++ numTx i) := by
  have H := Lib.hid (sc_AppendIntI z pre i w hz hi hpre hg)
  clear hz hg
  go_enter Tryz.func246, Tryz.ntmps246
  go_wp2_with fail
  refine H.out.mono ?_
  rintro e w1 ⟨r, rfl, ha⟩
  have HA := Lib.hid ha
  clear ha
  go_wp2_with fail
  go_ret
  exact ⟨_, rfl, HA.out⟩
/-- The text of an exponent. -/
def expTx (e : Int) : List Nat := (if e < 0 then 45 else 43) :: ((if e.natAbs < 10 then [48] else []) ++ numTx e.natAbs)
/-- The text of format e. -/
def eTx (ds : List Nat) (x : Int) (k : Nat) : List Nat := [atD ds 0] ++ fracTx ds 1 k ++ [101] ++ expTx (x - 1)
end Go.Proofs.YtacfhndledcmgaaGreatDoor
