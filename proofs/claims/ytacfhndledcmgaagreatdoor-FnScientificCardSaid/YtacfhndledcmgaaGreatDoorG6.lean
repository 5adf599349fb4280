/- Lemmas for the law FnScientific: the law laws.FnScientific itself. Conditions: those in each theorem; none besides. -/
import Derived.Test.YtacfhndledcmgaaGreatDoorG5
import Derived.Test.YtacfhndledcmgaaGreatDoorF8
import Derived.Deep.RegionHeld3
set_option linter.unusedVariables false
set_option linter.unusedSimpArgs false
namespace Go.Proofs.YtacfhndledcmgaaGreatDoor
open Go.RowKit
set_option maxRecDepth 100000 in
set_option maxHeartbeats 4000000 in
theorem law_FnScientific (P : Nat) (M F : Int) (n : Bool) (A : Option Addr) (c : Nat) (l : List Nat) (E : Int) (k : Nat) (w : World) (hP : P < 18446744073709551616) (hr : RdU w A l) (hm : ∀ x ∈ l, x < WB) (hc : l.length ≤ c) (hk : k < 256) (hg : Glob w) :
    Calls Tryz.prog 6 #[.agg #[.int .u64 P, .int .i64 M, .int .i64 F, .bool n, .slice A l.length c, .int .i64 E], .int .u8 k] w fun e w' => e = .returned (.bool true) ∧ Chg No w w' := by
  obtain ⟨nl, hnl⟩ : ∃ nl, nl = l.length := ⟨_, rfl⟩
  have HZ := Lib.hid (fun W => zzFits1_any P M F n A nl c E W)
  have HRl : Hid (∀ W, Chg No w W → Calls Tryz.prog 19 #[.agg #[.int .u64 P, .int .i64 M, .int .i64 F, .bool n, .slice A nl c, .int .i64 E], .int .u64 200, .int .i64 300] W (RealOut 200 300 P M F E l W)) :=
    Lib.hid fun W hW => by have := laws_real 200 300 P M F n A c l E W hP (by decide) (by decide) (hr.chg hW) hm hc; rw [← hnl] at this; exact this
  have HOf : Hid (∀ W, Chg No w W → RealOk 200 300 P M E l → Calls Tryz.prog 20 #[.agg #[.int .u64 P, .int .i64 M, .int .i64 1, .bool n, .slice A nl c, .int .i64 E]] W fun e w' => ∃ r, e = .returned (.agg #[.bool n, r, .int .i64 E]) ∧ Sn w' r (Vl l) ∧ Chg No W w') :=
    Lib.hid fun W hW ho => by have := spec_OfReal P M n A c l E W (hr.chg hW) (by have := ho.2.2.2.2.1; have := ho.2.1; omega) hm hc; rw [← hnl] at this; exact this
  have HTx : Hid (∀ kk : Nat, kk ≤ 100 → ∀ W, Chg No w W → RealOk 200 300 P M E l → Calls Tryz.prog 24 #[.agg #[.int .u64 P, .int .i64 M, .int .i64 1, .bool n, .slice A nl c, .int .i64 E], .int .u8 101, .int .i64 kk] W (TextOut (SciR n (Vl l) E kk) W)) :=
    Lib.hid fun kk hkk W hW ho => by
      obtain ⟨m, rfl⟩ : ∃ m : Nat, M = (m : Int) := ⟨M.toNat, by have := ho.2.2.1; omega⟩
      have := text_e P m kk n A c l E W (hr.chg hW) hm (hg.no hW) hkk ho; rw [← hnl] at this; exact this
  have K0 := Lib.hid ((Chg.refl No w).alloc (.cells #[.int .u64 P, .int .i64 M, .int .i64 F, .bool n, .slice A nl c, .int .i64 E] 43))
  have R0 : Hid (RealAt (w.alloc (.cells #[.int .u64 P, .int .i64 M, .int .i64 F, .bool n, .slice A nl c, .int .i64 E] 43)) w.heap.size P M F n A nl c E) :=
    Lib.hid ⟨World.cell?_alloc_new _ _ _ _, World.cell?_alloc_new _ _ _ _, World.cell?_alloc_new _ _ _ _, World.cell?_alloc_new _ _ _ _, World.cell?_alloc_new _ _ _ _, World.cell?_alloc_new _ _ _ _⟩
  rw [← hnl]
  clear hr hm hc hg hnl hP
  go_enter Tryz.func6, Tryz.ntmps6
  go_wp2_with fail
  refine (HZ.out _).mono ?_
  rintro e w1 ⟨b1, rfl, hk1⟩
  have K1 := Lib.hid (K0.out.then hk1 (fun _ _ _ f => f))
  have R1 := Lib.hid (R0.out.chg hk1)
  clear hk1
  cases b1
  · go_wp2_with fail
    go_ret
    exact ⟨rfl, K1.out⟩
  obtain ⟨c0, c1, c2, c3, c4, c5⟩ := R1.out
  go_wp2_with fail
  refine (HRl.out _ K1.out).mono ?_
  rintro e w2 ⟨b2, rfl, hok, hk2⟩
  have K2 := Lib.hid (K1.out.then hk2 (fun _ _ _ f => f))
  have R2 := Lib.hid (R1.out.chg hk2)
  clear hk2 c0 c1 c2 c3 c4 c5
  obtain ⟨c0, c1, c2, c3, c4, c5⟩ := R2.out
  cases b2
  · go_wp2_with fail
    go_ret
    exact ⟨rfl, K2.out⟩
  by_cases hF : F = 1
  · subst hF
    have HOK := Lib.hid (hok rfl rfl)
    clear hok
    go_wp2_with fail
    refine (HOf.out _ K2.out HOK.out).mono ?_
    rintro e w3 ⟨r, rfl, hr3, hk3⟩
    obtain ⟨rA, rn, rc, rfl⟩ := hr3.slc
    have K3 := Lib.hid (K2.out.then hk3 (fun _ _ _ f => f))
    have R3 := Lib.hid (R2.out.chg hk3)
    obtain ⟨o1, o2, o3, o4, o5, o6, o7, o8, o9⟩ := HOK.out
    have hX2 : Vl l < 2 ^ 200 := Nat.lt_of_lt_of_le (blen_spec o6).2.2 (Nat.pow_le_pow_right (by decide) (by omega))
    have hPB := parts_bound (Vl l) 40 E hX2 o8 o9 (by decide)
    have hXb : Vl l < 65536 ^ 40 := Nat.lt_of_le_of_lt (Nat.le_mul_of_pos_right _ (Nat.two_pow_pos _)) hPB.1
    have HPt := Lib.hid (laws_parts n _ (Vl l) 40 E _ (hr3.chg (dyad_new w3 (.bool n) (.slice rA rn rc) (.int .i64 E))) hXb (by decide) (by omega) (by omega))
    have HPB := Lib.hid hPB
    have HX0 : Hid (Vl l * 2 ^ E.toNat ≠ 0) := Lib.hid (Nat.mul_ne_zero o6 (Nat.ne_of_gt (Nat.two_pow_pos _)))
    clear hr3 hk3 o1 o2 o3 o4 o5 o6 o7 o8 o9 hX2 hXb hPB c0 c1 c2 c3 c4 c5
    go_wp2_with fail
    refine HPt.out.mono ?_
    rintro e w4 ⟨a, b, rfl, ha, hb, hk4⟩
    obtain ⟨aA, an, ac, rfl⟩ := ha.slc
    obtain ⟨bA, bn, bc, rfl⟩ := hb.slc
    have hk34 := (dyad_new w3 (.bool n) (.slice rA rn rc) (.int .i64 E)).then hk4 (fun _ _ _ f => f)
    have K4 := Lib.hid (K3.out.then hk34 (fun _ _ _ f => f))
    have R4 := Lib.hid (R3.out.chg hk34)
    obtain ⟨kk, hkk⟩ : ∃ kk, kk = k % 61 := ⟨_, rfl⟩
    have e1 : (k : Int) % 61 = (kk : Int) := by omega
    have hk60 : kk ≤ 60 := by omega
    have HFx : Hid (∀ W, Chg No w4 W → Calls Tryz.prog 26 #[.bool n, .slice aA an ac, .slice bA bn bc, .int .i64 kk] W (SciPost n (Vl l * 2 ^ E.toNat) (2 ^ (-E).toNat) kk W)) :=
      Lib.hid fun W hW => spec_Scientific n _ _ _ _ 40 kk W (ha.chg hW) (hb.chg hW) HPB.out.1 HPB.out.2 HX0.out (Nat.ne_of_gt (Nat.two_pow_pos _)) (by decide) (by omega)
    have HKP : Hid (∀ W, Chg No w4 W → W.cell? ⟨w.heap.size, 0, none⟩ = some (.int .u64 P) ∧ W.cell? ⟨w.heap.size, 1, none⟩ = some (.int .i64 M) ∧ W.cell? ⟨w.heap.size, 2, none⟩ = some (.int .i64 1) ∧ W.cell? ⟨w.heap.size, 3, none⟩ = some (.bool n) ∧ W.cell? ⟨w.heap.size, 4, none⟩ = some (.slice A nl c) ∧ W.cell? ⟨w.heap.size, 5, none⟩ = some (.int .i64 E) ∧ Chg No w4 W) :=
      Lib.hid fun W hW => by
        obtain ⟨g0, g1, g2, g3, g4, g5⟩ := R4.out.chg hW
        exact ⟨g0, g1, g2, g3, g4, g5, hW⟩
    have HT2 := Lib.hid (HTx.out kk (by omega))
    clear ha hb hk4 hk34 hkk HTx
    go_wp2_with fail
    go_region_held3 (fun W => W.cell? ⟨w.heap.size, 0, none⟩ = some (.int .u64 P) ∧ W.cell? ⟨w.heap.size, 1, none⟩ = some (.int .i64 M) ∧ W.cell? ⟨w.heap.size, 2, none⟩ = some (.int .i64 1) ∧ W.cell? ⟨w.heap.size, 3, none⟩ = some (.bool n) ∧ W.cell? ⟨w.heap.size, 4, none⟩ = some (.slice A nl c) ∧ W.cell? ⟨w.heap.size, 5, none⟩ = some (.int .i64 E) ∧ Chg No w4 W) (first | assumption | exact HKP.out _ (Chg.refl No w4).drew) (first
      | (go_at_call 26; obtain ⟨-, -, -, -, -, -, hcur⟩ := ‹_ ∧ _ ∧ _ ∧ _ ∧ _ ∧ _ ∧ Chg No w4 _›; refine (HFx.out _ hcur).mono ?_; rintro e w5 ⟨fv, ts, kt, rfl, hs, hl, hTi, hT, hk5⟩; have hS5 := HKP.out w5 (hcur.then hk5 (fun _ _ _ f => f)); have HS := Lib.hid hs; have HT := Lib.hid (And.intro hl (And.intro hTi hT)); clear hs hl hTi hT hk5 hcur)
      | (go_at_call 24; obtain ⟨-, -, -, -, -, -, hcur⟩ := ‹_ ∧ _ ∧ _ ∧ _ ∧ _ ∧ _ ∧ Chg No w4 _›; refine (HT2.out _ (K4.out.then hcur (fun _ _ _ f => f)) HOK.out).mono ?_; rintro e w6 ⟨t, ht, rfl, hk6⟩; have hS6 := HKP.out w6 (hcur.then hk6 (fun _ _ _ f => f)); have HS6 := Lib.hid (HS.out.chg hk6); have HM := Lib.hid (ht.mem HT.out.2.1 HT.out.2.2); clear ht hk6 hcur)
      | (go_at_call 22; refine (laws_has _ _ _ _ HS6.out HM.out (Nat.le_trans HT.out.1 (by decide))).mono ?_; rintro e w7 ⟨rfl, rfl⟩))
    all_goals
      go_wp2_with fail
      go_ret
      obtain ⟨-, -, -, -, -, -, hcur⟩ := ‹_ ∧ _ ∧ _ ∧ _ ∧ _ ∧ _ ∧ Chg No w4 _›
      exact ⟨rfl, K4.out.then hcur (fun _ _ _ f => f)⟩
  · have t1 : (F == 1) = false := beq_eq_false_iff_ne.2 hF
    have t2 : (F != 1) = true := by simp [bne, t1]
    clear hok hF
    go_wp2_with fail
    go_ret
    exact ⟨rfl, K2.out⟩
end Go.Proofs.YtacfhndledcmgaaGreatDoor
