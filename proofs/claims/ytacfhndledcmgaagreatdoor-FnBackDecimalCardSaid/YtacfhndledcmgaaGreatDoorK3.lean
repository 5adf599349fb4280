/- Lemmas for the law FnBackDecimal: slices, methods of nat. Conditions: those in each theorem; none besides. -/
import Derived.Test.YtacfhndledcmgaaGreatDoorK2
import Derived.LaidEql
set_option linter.unusedVariables false
set_option linter.unusedSimpArgs false
namespace Go.Proofs.YtacfhndledcmgaaGreatDoor
open Go.RowKit
theorem sameAddr_other {P : Program} {w : World} {a b : Addr} (hne : a ≠ b) (ha : Plain w a.block) (hb : Plain w b.block) : (sameAddr a b).run P w = .ok false w := by
  obtain ⟨c, t, h1⟩ := ha
  obtain ⟨c', t', h2⟩ := hb
  exact run_sameAddr_other w hne h1 h2
theorem ptr_under : Tryz.prog.underlying 261 = some (.pointer 149) := Tryz.underlying261
theorem info149 : (Tryz.prog.info? 149).map (fun i => (i.zero, i.size, i.bytes)) = some (some (.int .u64 0), 1, 8) := by kernel_rfl
theorem info_of {e : TypeId} {z : Value} {n m : Nat} (h : (Tryz.prog.info? e).map (fun i => (i.zero, i.size, i.bytes)) = some (some z, n, m)) : ∃ i, Tryz.prog.info? e = some i ∧ i.zero = some z ∧ i.size = n ∧ i.bytes = m := by
  cases hq : Tryz.prog.info? e with
  | none => simp [hq] at h
  | some i => simp [hq] at h; exact ⟨i, rfl, h.1, h.2.1, h.2.2⟩
theorem equalIn_ptr (d : Nat) (w : World) (a b : Addr) (r : Bool) (h : (sameAddr a b).run Tryz.prog w = .ok r w) : (Op.equalIn (d + 1) 261 (.pointer (some a)) (.pointer (some b))).run Tryz.prog w = .ok r w := by
  obtain ⟨i, h1, h2, h3, h4⟩ := info_of info149
  simp [Op.equalIn, run_underlying ptr_under, sizeOf, typeInfo, h1, h3, h]
theorem neq_same (a : Addr) (w : World) : (binOp .neq 261 (.pointer (some a)) (.pointer (some a))).run Tryz.prog w = .ok (.bool false) w := by
  have h := equalIn_ptr 9999 w a a true (run_sameAddr_same w a)
  simp only [binOp]
  simp [Op.equal, Op.maxDepth, h]
theorem neq_other {a b : Addr} {w : World} (hne : a ≠ b) (ha : Plain w a.block) (hb : Plain w b.block) : (binOp .neq 261 (.pointer (some a)) (.pointer (some b))).run Tryz.prog w = .ok (.bool true) w := by
  have h := equalIn_ptr 9999 w a b false (sameAddr_other hne ha hb)
  simp only [binOp]
  simp [Op.equal, Op.maxDepth, h]
theorem eql_same (a : Addr) (w : World) : (binOp .eql 261 (.pointer (some a)) (.pointer (some a))).run Tryz.prog w = .ok (.bool true) w := by
  have h := equalIn_ptr 9999 w a a true (run_sameAddr_same w a)
  simp only [binOp]
  simp [Op.equal, Op.maxDepth, h]
theorem eql_other {a b : Addr} {w : World} (hne : a ≠ b) (ha : Plain w a.block) (hb : Plain w b.block) : (binOp .eql 261 (.pointer (some a)) (.pointer (some b))).run Tryz.prog w = .ok (.bool false) w := by
  have h := equalIn_ptr 9999 w a b false (sameAddr_other hne ha hb)
  simp only [binOp]
  simp [Op.equal, Op.maxDepth, h]
theorem Val_split (w : World) (b o i m : Nat) : Val w b o (i + m) = Val w b o i + WB ^ i * Val w b (o + i) m := by
  unfold Val
  rw [V_split]
  congr 2
  exact V_congr m fun j _ => by rw [Nat.add_assoc]
theorem Val_congr2 {w w' : World} {b o b' o' n : Nat} (h : ∀ i, i < n → wd w' b' (o' + i) = wd w b (o + i)) : Val w' b' o' n = Val w b o n := V_congr n h
theorem vw_end {w w' : World} {zb zo xb xo n k y : Nat} (hk : k < n) (h1 : Val w' zb zo (k + 1) = Val w xb xo (k + 1) + y) (h2 : ∀ j, k + 1 ≤ j → j < n → wd w' zb (zo + j) = wd w xb (xo + j)) : Val w' zb zo n + 0 * WB ^ n = Val w xb xo n + y := by
  obtain ⟨m, rfl⟩ : ∃ m, n = (k + 1) + m := ⟨n - (k + 1), by omega⟩
  have e : Val w' zb (zo + (k + 1)) m = Val w xb (xo + (k + 1)) m := Val_congr2 fun i hi => by
    have := h2 (k + 1 + i) (by omega) (by omega)
    rw [show zo + (k + 1 + i) = zo + (k + 1) + i by omega, show xo + (k + 1 + i) = xo + (k + 1) + i by omega] at this
    exact this
  rw [Val_split, Val_split w, h1, Nat.zero_mul, e]
  omega
set_option maxRecDepth 100000 in
set_option maxHeartbeats 1500000 in
theorem addVW (zb zo zc xb xo xc n y : Nat) (w : World) (hn : n < 4611686018427387904) (hn0 : 0 < n) (hy : y < WB) (hnz : n ≤ zc) (hnx : n ≤ xc)
    (hz : Wr w zb zo n) (hx : ∀ i, i < n → IsW w xb (xo + i)) (hpx : Plain w xb) (hxz : xb ≠ zb ∨ xo = zo) :
    Calls Tryz.prog 182 #[.slice (some ⟨zb, zo, none⟩) n zc, .slice (some ⟨xb, xo, none⟩) n xc, .int .u64 y] w fun e w' =>
      ∃ c : Nat, e = .returned (.int .u64 c) ∧ c ≤ 1 ∧ Val w' zb zo n + c * WB ^ n = Val w xb xo n + y ∧ Chg (Rng zb zo n) w w' := by
  have hnn : ((n : Int) == n) = true := by simp
  have hn1 : ((n : Int) == 0) = false := by simp; omega
  have i0 : (0 : Int) < (n : Int) := by omega
  have hx0 := hx 0 hn0
  have hz0 := hz.isW 0 hn0
  have cx : w.cell? ⟨xb, xo, none⟩ = some (.int .u64 (wd w xb xo : Nat)) := hx0.cell
  have cz : w.cell? ⟨zb, zo, none⟩ = some (.int .u64 (wd w zb zo : Nat)) := hz0.cell
  have fz : w.frozen? ⟨zb, zo, none⟩ = false := hz.free 0 hn0
  have hle := addHi_le (x := wd w xb xo) (y := y) (c := 0) hx0.lt hy (by omega)
  have heq := add_eq (wd w xb xo) y 0
  have hlt := addLo_lt (wd w xb xo) y 0
  obtain ⟨c0, hc0⟩ : ∃ c0, c0 = addHi (wd w xb xo) y 0 := ⟨_, rfl⟩
  obtain ⟨l0, hl0⟩ : ∃ l0, l0 = addLo (wd w xb xo) y 0 := ⟨_, rfl⟩
  have Hxlt := Lib.hid hx0.lt; have Hy := Lib.hid hy; have Hlt := Lib.hid hlt; have Heq := Lib.hid heq; have Hle := Lib.hid hle
  have hl0b : l0 < WB := by rw [hl0]; exact hlt
  have HL0 := Lib.hid hl0b
  have ec := hc0.symm; have el := hl0.symm
  clear hl0b hy hlt heq hle hc0 hl0
  by_cases h0 : c0 = 0
  · subst h0
    by_cases hsame : xb = zb ∧ xo = zo
    · obtain ⟨rfl, rfl⟩ := hsame
      have hptr := fun W => neq_same ⟨xb, xo, none⟩ W
      go_enter Tryz.func182, Tryz.ntmps182
      go_wp2_with fail
      refine (bits_Add _ _ 0 Hxlt.out Hy.out (by omega) _).mono ?_
      rintro e w' ⟨rfl, rfl⟩
      go_wp2_with fail
      go_quiet (fail)
      go_wp2_with fail
      go_ret
      refine ⟨0, rfl, by omega, ?_, ?_⟩
      · refine vw_end hn0 (k := 0) ?_ (fun j h1 h2 => wd_setCell_ne (w := w) (.inr (by omega)))
        have e1 := Heq.out
        have e2 : wd (((w.drewN 0).setCell ⟨xb, xo, none⟩ (.int .u64 l0)).drewN nq) xb xo = l0 := wd_setCell_same (w := w) cx
        rw [Val_one, Val_one, e2]
        rw [ec, el] at e1
        omega
      · have hl : l0 < WB := by rw [← el]; exact Hlt.out
        exact Chg.drewN (Chg.setW (S := Rng xb xo n) (w := w) (Chg.refl _ _) hx0 hl (fun _ => ⟨rfl, by omega, by omega⟩)) nq
    · have hb : xb ≠ zb := by omega
      have hptr : ∀ m, (binOp .neq 261 (.pointer (some ⟨zb, zo, none⟩)) (.pointer (some ⟨xb, xo, none⟩))).run Tryz.prog (((w.drewN 0).setCell ⟨zb, zo, none⟩ (.int .u64 l0)).drewN m) = .ok (.bool true) (((w.drewN 0).setCell ⟨zb, zo, none⟩ (.int .u64 l0)).drewN m) :=
        fun m => neq_other (fun e => hb (by cases e; rfl)) (Plain.setCell (w := w) hz.plain _ _) (Plain.setCell (w := w) hpx _ _)
      by_cases h1 : n = 1
      · subst h1
        go_enter Tryz.func182, Tryz.ntmps182
        go_wp2_with fail
        refine (bits_Add _ _ 0 Hxlt.out Hy.out (by omega) _).mono ?_
        rintro e w' ⟨rfl, rfl⟩
        go_wp2_with fail
        go_quiet (fail)
        go_wp2_with fail
        go_region_law (refine step_copy0 rfl (.tmp 40) (.tmp 42) 84 84 rfl 149 Tryz.underlying84 (by kernel_rfl) _ _ 0 _ 0 _ rfl rfl rfl ?_)
        all_goals go_wp2_with fail
        all_goals
          go_ret
          refine ⟨0, rfl, by omega, ?_, ?_⟩
          · have e1 := Heq.out
            rw [ec, el] at e1
            have e2 := vw_end (w := w) (w' := (w.drewN 0).setCell ⟨zb, zo, none⟩ (.int .u64 l0)) (zb := zb) (zo := zo) (xb := xb) (xo := xo) (y := y) hn0 (k := 0) (by
              rw [Val_one, Val_one, wd_setCell_same (w := w.drewN 0) cz]
              omega) (fun j h1 h2 => absurd h2 (by omega))
            have e3 : Val ((w.drewN 0).setCell ⟨zb, zo, none⟩ (.int .u64 l0)) zb zo 1 = Val w xb xo 1 + y := by simpa using e2
            refine (congrArg (· + 0 * WB) e3).trans ?_
            show Val w xb xo 1 + y + 0 * WB = _
            rw [Nat.zero_mul]
            rfl
          · exact Chg.drewN (Chg.setW (S := Rng zb zo 1) (w := w) (Chg.refl _ _) hz0 HL0.out (fun _ => ⟨rfl, by omega, by omega⟩)) _
      · have i1 : (1 : Int) < (n : Int) := by omega
        have i2 : (1 : Int) ≤ (n : Int) := by omega
        have hzc1 : ¬ zc = 1 := by omega
        have hxc1 : ¬ xc = 1 := by omega
        go_enter Tryz.func182, Tryz.ntmps182
        go_wp2_with fail
        refine (bits_Add _ _ 0 Hxlt.out Hy.out (by omega) _).mono ?_
        rintro e w' ⟨rfl, rfl⟩
        go_wp2_with fail
        go_quiet (fail)
        go_wp2_with fail
        have A1 : ∀ i, i < n - 1 → IsW ((w.drewN 0).setCell ⟨zb, zo, none⟩ (.int .u64 l0)) xb (xo + 1 + i) := fun i hi => by
          have := hx (1 + i) (by omega)
          rw [← Nat.add_assoc] at this
          exact IsI.setW (w := w) hz0 HL0.out _ _ this
        have A2 : Wr ((w.drewN 0).setCell ⟨zb, zo, none⟩ (.int .u64 l0)) zb (zo + 1) (n - 1) := ⟨fun i hi => by
          have := hz.isW (1 + i) (by omega)
          rw [← Nat.add_assoc] at this
          exact IsI.setW (w := w) hz0 HL0.out _ _ this, Plain.setCell (w := w) hz.plain _ _⟩
        go_region_law (refine step_copyW rfl (.tmp 40) (.tmp 42) 84 84 rfl 149 Tryz.underlying84 (by kernel_rfl) zb (zo + 1) (n - 1) (zc - 1) xb (xo + 1) (n - 1) (xc - 1) rfl rfl (n - 1) ?_ ?_ ?_ ?_; (simp); (exact A1); (exact ⟨A2.isW, A2.plain⟩); (intro w2 hc2 hv2))
        all_goals
          go_wp2_with fail
          go_ret
          have C1 : Chg (Rng zb zo n) w ((w.drewN 0).setCell ⟨zb, zo, none⟩ (.int .u64 l0)) := Chg.setW (w := w) (Chg.refl _ _) hz0 HL0.out (fun _ => ⟨rfl, by omega, by omega⟩)
          refine ⟨0, rfl, by omega, ?_, ?_⟩
          · have e1 := Heq.out
            rw [ec, el] at e1
            refine vw_end hn0 (k := 0) ?_ (fun j h1 h2 => ?_)
            · rw [Val_one, Val_one, wd_congr (hc2.cell zb zo (C1.plain zb hz.plain).lt (by unfold Rng; omega))]
              have e2 : wd ((w.drewN 0).setCell ⟨zb, zo, none⟩ (.int .u64 l0)) zb zo = l0 := wd_setCell_same (w := w) cz
              refine Eq.trans e2 ?_
              omega
            · have e3 := hv2.out (j - 1) (by omega)
              rw [show zo + 1 + (j - 1) = zo + j by omega, show xo + 1 + (j - 1) = xo + j by omega] at e3
              exact e3.trans (wd_setCell_ne (w := w) (.inl hb))
          · refine ((C1.drewN nq).drew).then hc2 (fun x o _ h => ?_)
            obtain ⟨h1, h2, h3⟩ := h
            exact ⟨h1, by omega, by omega⟩
  · have h01 : c0 = 1 := by have := Hle.out; rw [ec] at this; omega
    subst h01
    have C1 : Chg (Rng zb zo 1) w ((w.drewN 0).setCell ⟨zb, zo, none⟩ (.int .u64 l0)) := Chg.setW (w := w) (Chg.refl _ _) hz0 HL0.out (fun _ => ⟨rfl, by omega, by omega⟩)
    have V1 : Val ((w.drewN 0).setCell ⟨zb, zo, none⟩ (.int .u64 l0)) zb zo 1 + WB ^ 1 = Val w xb xo 1 + y := by
      have e1 := Heq.out
      rw [ec, el] at e1
      rw [Val_one, Val_one, wd_setCell_same (w := w.drewN 0) cz, Nat.pow_one]
      omega
    have HC1 := Lib.hid C1; have HV1 := Lib.hid V1
    clear C1 V1 h0
    go_enter Tryz.func182, Tryz.ntmps182
    go_wp2_with fail
    refine (bits_Add _ _ 0 Hxlt.out Hy.out (by omega) _).mono ?_
    rintro e w' ⟨rfl, rfl⟩
    go_wp2_with fail
    go_loopw [9] (fun i wr => ∃ k : Nat, 1 ≤ k ∧ k ≤ n ∧ i = .int .i64 k ∧ Hid (Val wr zb zo k + WB ^ k = Val w xb xo k + y) ∧ Hid (Chg (Rng zb zo k) w wr)) (fun i _ => n - (intOf i).toNat)
    case atStart => exact ⟨1, by omega, by omega, rfl, HV1, HC1⟩
    case round =>
      obtain ⟨k, hk1, hk, rfl, hV, HC⟩ := hrel
      have hC := HC.out
      by_cases hlt : k < n
      · have hxk := hx k hlt
        have hzk := hC.isW _ _ (hz.isW k hlt)
        have cxk : wr.cell? ⟨xb, xo + k, none⟩ = some (.int .u64 (wd w xb (xo + k) : Nat)) := (hC.cell _ _ hxk.block (by unfold Rng; omega)).trans hxk.cell
        have czk := hzk.cell
        have fzk : wr.frozen? ⟨zb, zo + k, none⟩ = false := (hC.plain _ hz.plain).free _
        have i1 : (k : Int) < (n : Int) := by omega
        obtain ⟨xk, hxk'⟩ : ∃ xk, xk = wd w xb (xo + k) := ⟨_, rfl⟩
        have hxlt := hxk.lt
        rw [← hxk'] at cxk hxlt
        have HX := Lib.hid hxk'; have HXl := Lib.hid hxlt
        clear hxk' hxlt hC
        by_cases hmax : xk + 1 = WB
        · have t1 : ((xk : Int) != 18446744073709551615) = false := by
            rw [bne_eq_false_iff_eq]; unfold WB at hmax; omega
          have HM := Lib.hid hmax
          clear hmax
          go_wp2_with fail
          go_roundw
          case rel =>
            refine ⟨k + 1, by omega, by omega, by go_num, Lib.hid ?_, Lib.hid ?_⟩
            · rw [show Val (wr.setCell ⟨zb, zo + k, none⟩ (.int .u64 0)) zb zo (k + 1) = _ from Val_set hzk (v := 0), Val_succ w xb, ← HX.out, Nat.zero_mul, Nat.add_zero, Nat.pow_succ]
              have e1 := hV.out
              have e2 : (xk + 1) * WB ^ k = WB * WB ^ k := by rw [HM.out]
              rw [Nat.add_mul, Nat.one_mul] at e2
              rw [Nat.mul_comm (WB ^ k)]
              omega
            · exact (HC.out.mono (fun b o _ h => ⟨h.1, h.2.1, by have := h.2.2; omega⟩)).setW (n := 0) hzk WB_pos (fun _ => ⟨rfl, by omega, by omega⟩)
          case measure => simp [intOf]; omega
        · have t1 : ((xk : Int) != 18446744073709551615) = true := by
            rw [bne_iff_ne]; unfold WB at hmax; omega
          have e1 : IntKind.u64.wrap ((xk : Int) + 1) = ((xk + 1 : Nat) : Int) := by
            have := HXl.out
            rw [show (xk : Int) + 1 = ((xk + 1 : Nat) : Int) by omega, wrap_cast, Nat.mod_eq_of_lt (by omega)]
          have hx1 : xk + 1 < WB := by have := HXl.out; omega
          obtain ⟨v, hv⟩ : ∃ v, v = xk + 1 := ⟨_, rfl⟩
          rw [← hv] at e1 hx1
          have HV := Lib.hid hv; have HX1 := Lib.hid hx1
          clear hv hx1 hmax
          have C2 : Chg (Rng zb zo (k + 1)) w (wr.setCell ⟨zb, zo + k, none⟩ (.int .u64 v)) := (HC.out.mono (fun b o _ h => ⟨h.1, h.2.1, by have := h.2.2; omega⟩)).setW hzk HX1.out (fun _ => ⟨rfl, by omega, by omega⟩)
          have V2 : Val (wr.setCell ⟨zb, zo + k, none⟩ (.int .u64 v)) zb zo (k + 1) = Val w xb xo (k + 1) + y := by
            rw [Val_set hzk, Val_succ w xb, ← HX.out, HV.out, Nat.add_mul, Nat.one_mul]
            have := hV.out
            omega
          have HC2 := Lib.hid C2; have HV2 := Lib.hid V2
          have HCn := Lib.hid (C2.mono (T := Rng zb zo n) (fun b o _ h => ⟨h.1, h.2.1, by have := h.2.2; omega⟩))
          clear C2 V2
          by_cases hsame : xb = zb ∧ xo = zo
          · obtain ⟨rfl, rfl⟩ := hsame
            have hptr := fun W => neq_same ⟨xb, xo, none⟩ W
            go_wp2_with fail
            go_quiet (fail)
            go_wp2_with fail
            go_ret
            refine ⟨0, rfl, by omega, ?_, HCn.out.drewN _⟩
            exact vw_end hlt (k := k) HV2.out (fun j h1 h2 => wd_congr (HC2.out.cell _ _ (hx j h2).block (by unfold Rng; omega)))
          · have hb : xb ≠ zb := by omega
            have hptr : ∀ m, (binOp .neq 261 (.pointer (some ⟨zb, zo, none⟩)) (.pointer (some ⟨xb, xo, none⟩))).run Tryz.prog ((wr.setCell ⟨zb, zo + k, none⟩ (.int .u64 v)).drewN m) = .ok (.bool true) ((wr.setCell ⟨zb, zo + k, none⟩ (.int .u64 v)).drewN m) :=
              fun m => neq_other (fun e => hb (by cases e; rfl)) (HC2.out.plain _ hz.plain) (HC2.out.plain _ hpx)
            have i2 : (k : Int) + 1 ≤ (n : Int) := by omega
            have i0' : 0 ≤ (k : Int) + 1 := by omega
            by_cases hkn : k + 1 = n
            · have hcopy : ∀ (ty : TypeId) (dp sp : Option Addr) (c c' : Nat) (W : World), (Builtin.copy_ #[84, 84] ty #[.slice dp (n - (k + 1)) c, .slice sp (n - (k + 1)) c']).run Tryz.prog W = .ok (goInt 0) W :=
                fun ty dp sp c c' W => run_copy_none W 84 84 ty 149 dp sp _ _ _ _ Tryz.underlying84 (by kernel_rfl) (by simp; omega)
              have HE := Lib.hid (vw_end hlt (k := k) HV2.out (fun j h1 h2 => absurd h2 (by omega)))
              clear hkn
              have et : ((k : Int) + 1).toNat = k + 1 := by omega
              have ek : IntKind.i64.wrap ((k : Int) + 1) = (k : Int) + 1 := IntWalk.i64_in _ (by omega)
              go_wp2_with fail
              go_quiet (fail)
              go_wp2_with fail
              go_quiet (fail)
              all_goals go_wp2_with fail
              all_goals go_ret
              all_goals exact ⟨0, rfl, Nat.zero_le _, HE.out, HCn.out.drewN _⟩
            · have hk2 : k + 1 < n := by omega
              have hzc1 : ¬ zc = k + 1 := by omega
              have hxc1 : ¬ xc = k + 1 := by omega
              have A1 : ∀ i, i < n - (k + 1) → IsW (wr.setCell ⟨zb, zo + k, none⟩ (.int .u64 v)) xb (xo + (k + 1) + i) := fun i hi => by
                have := HC2.out.isW _ _ (hx (k + 1 + i) (by omega))
                rwa [← Nat.add_assoc] at this
              have A2 : Wr (wr.setCell ⟨zb, zo + k, none⟩ (.int .u64 v)) zb (zo + (k + 1)) (n - (k + 1)) := ⟨fun i hi => by
                have := HC2.out.isW _ _ (hz.isW (k + 1 + i) (by omega))
                rwa [← Nat.add_assoc] at this, HC2.out.plain _ hz.plain⟩
              have et : ((k : Int) + 1).toNat = k + 1 := by omega
              have ek : IntKind.i64.wrap ((k : Int) + 1) = (k : Int) + 1 := IntWalk.i64_in _ (by omega)
              go_wp2_with fail
              go_quiet (fail)
              go_wp2_with fail
              go_region_law (refine step_copyW rfl (.tmp 69) (.tmp 73) 84 84 rfl 149 Tryz.underlying84 (by kernel_rfl) zb (zo + (k + 1)) (n - (k + 1)) (zc - (k + 1)) xb (xo + (k + 1)) (n - (k + 1)) (xc - (k + 1)) ?_ ?_ (n - (k + 1)) ?_ ?_ ?_ ?_; (simp [Act.eval, Act.put]); (simp [Act.eval, Act.put]); (simp); (exact A1); (exact ⟨A2.isW, A2.plain⟩); (intro w2 hc2 hv2))
              all_goals go_wp2_with fail
              all_goals
                clear ek et
                go_ret
                refine ⟨0, rfl, by omega, ?_, ?_⟩
                · refine vw_end hlt (k := k) ?_ (fun j h1 h2 => ?_)
                  · rw [Val_congr (w := wr.setCell ⟨zb, zo + k, none⟩ (.int .u64 v)) (fun i hi => wd_congr (hc2.cell _ _ ((HC2.out.isW _ _ (hz.isW i (by omega))).block) (by unfold Rng; omega)))]
                    exact HV2.out
                  · have e3 := hv2.out (j - (k + 1)) (by omega)
                    rw [show zo + (k + 1) + (j - (k + 1)) = zo + j by omega, show xo + (k + 1) + (j - (k + 1)) = xo + j by omega] at e3
                    exact e3.trans (wd_congr (HC2.out.cell _ _ (hx j h2).block (by unfold Rng; omega)))
                · refine ((HCn.out.drewN _).drew).then hc2 (fun x o _ h => ?_)
                  obtain ⟨h1, h2, h3⟩ := h
                  exact ⟨h1, by omega, by omega⟩
      · have hkn : k = n := by omega
        subst hkn
        go_wp2_with fail
        go_ret
        exact ⟨1, rfl, by omega, by rw [Nat.one_mul]; exact hV.out, HC.out⟩
theorem vw_end2 {w w' : World} {zb zo xb xo n k y : Nat} (hk : k < n) (h1 : Val w' zb zo (k + 1) + y = Val w xb xo (k + 1)) (h2 : ∀ j, k + 1 ≤ j → j < n → wd w' zb (zo + j) = wd w xb (xo + j)) : Val w' zb zo n + y = Val w xb xo n + 0 * WB ^ n := by
  obtain ⟨m, rfl⟩ : ∃ m, n = (k + 1) + m := ⟨n - (k + 1), by omega⟩
  have e : Val w' zb (zo + (k + 1)) m = Val w xb (xo + (k + 1)) m := Val_congr2 fun i hi => by
    have := h2 (k + 1 + i) (by omega) (by omega)
    rw [show zo + (k + 1 + i) = zo + (k + 1) + i by omega, show xo + (k + 1 + i) = xo + (k + 1) + i by omega] at this
    exact this
  rw [Val_split, Val_split w, ← h1, Nat.zero_mul, e]
  omega
set_option maxRecDepth 100000 in
set_option maxHeartbeats 1500000 in
theorem subVW (zb zo zc xb xo xc n y : Nat) (w : World) (hn : n < 4611686018427387904) (hn0 : 0 < n) (hy : y < WB) (hnz : n ≤ zc) (hnx : n ≤ xc)
    (hz : Wr w zb zo n) (hx : ∀ i, i < n → IsW w xb (xo + i)) (hpx : Plain w xb) (hxz : xb ≠ zb ∨ xo = zo) :
    Calls Tryz.prog 184 #[.slice (some ⟨zb, zo, none⟩) n zc, .slice (some ⟨xb, xo, none⟩) n xc, .int .u64 y] w fun e w' =>
      ∃ c : Nat, e = .returned (.int .u64 c) ∧ c ≤ 1 ∧ Val w' zb zo n + y = Val w xb xo n + c * WB ^ n ∧ Chg (Rng zb zo n) w w' := by
  have hnn : ((n : Int) == n) = true := by simp
  have hn1 : ((n : Int) == 0) = false := by simp; omega
  have i0 : (0 : Int) < (n : Int) := by omega
  have hx0 := hx 0 hn0
  have hz0 := hz.isW 0 hn0
  have cx : w.cell? ⟨xb, xo, none⟩ = some (.int .u64 (wd w xb xo : Nat)) := hx0.cell
  have cz : w.cell? ⟨zb, zo, none⟩ = some (.int .u64 (wd w zb zo : Nat)) := hz0.cell
  have fz : w.frozen? ⟨zb, zo, none⟩ = false := hz.free 0 hn0
  have hle := subHi_le (wd w xb xo) y 0
  have heq := sub_eq (x := wd w xb xo) (y := y) (c := 0) hx0.lt hy (by omega)
  have hlt := subLo_lt (wd w xb xo) y 0
  obtain ⟨c0, hc0⟩ : ∃ c0, c0 = subHi (wd w xb xo) y 0 := ⟨_, rfl⟩
  obtain ⟨l0, hl0⟩ : ∃ l0, l0 = subLo (wd w xb xo) y 0 := ⟨_, rfl⟩
  have Hxlt := Lib.hid hx0.lt; have Hy := Lib.hid hy; have Hlt := Lib.hid hlt; have Heq := Lib.hid heq; have Hle := Lib.hid hle
  have hl0b : l0 < WB := by rw [hl0]; exact hlt
  have HL0 := Lib.hid hl0b
  have ec := hc0.symm; have el := hl0.symm
  clear hl0b hy hlt heq hle hc0 hl0
  by_cases h0 : c0 = 0
  · subst h0
    by_cases hsame : xb = zb ∧ xo = zo
    · obtain ⟨rfl, rfl⟩ := hsame
      have hptr := fun W => neq_same ⟨xb, xo, none⟩ W
      go_enter Tryz.func184, Tryz.ntmps184
      go_wp2_with fail
      refine (bits_Sub _ _ 0 (by omega) _).mono ?_
      rintro e w' ⟨rfl, rfl⟩
      go_wp2_with fail
      go_quiet (fail)
      go_wp2_with fail
      go_ret
      refine ⟨0, rfl, by omega, ?_, ?_⟩
      · refine vw_end2 hn0 (k := 0) ?_ (fun j h1 h2 => wd_setCell_ne (w := w) (.inr (by omega)))
        have e1 := Heq.out
        have e2 : wd (((w.drewN 0).setCell ⟨xb, xo, none⟩ (.int .u64 l0)).drewN nq) xb xo = l0 := wd_setCell_same (w := w) cx
        rw [Val_one, Val_one, e2]
        rw [ec, el] at e1
        omega
      · have hl : l0 < WB := by rw [← el]; exact Hlt.out
        exact Chg.drewN (Chg.setW (S := Rng xb xo n) (w := w) (Chg.refl _ _) hx0 hl (fun _ => ⟨rfl, by omega, by omega⟩)) nq
    · have hb : xb ≠ zb := by omega
      have hptr : ∀ m, (binOp .neq 261 (.pointer (some ⟨zb, zo, none⟩)) (.pointer (some ⟨xb, xo, none⟩))).run Tryz.prog (((w.drewN 0).setCell ⟨zb, zo, none⟩ (.int .u64 l0)).drewN m) = .ok (.bool true) (((w.drewN 0).setCell ⟨zb, zo, none⟩ (.int .u64 l0)).drewN m) :=
        fun m => neq_other (fun e => hb (by cases e; rfl)) (Plain.setCell (w := w) hz.plain _ _) (Plain.setCell (w := w) hpx _ _)
      by_cases h1 : n = 1
      · subst h1
        go_enter Tryz.func184, Tryz.ntmps184
        go_wp2_with fail
        refine (bits_Sub _ _ 0 (by omega) _).mono ?_
        rintro e w' ⟨rfl, rfl⟩
        go_wp2_with fail
        go_quiet (fail)
        go_wp2_with fail
        go_region_law (refine step_copy0 rfl (.tmp 40) (.tmp 42) 84 84 rfl 149 Tryz.underlying84 (by kernel_rfl) _ _ 0 _ 0 _ rfl rfl rfl ?_)
        all_goals go_wp2_with fail
        all_goals
          go_ret
          refine ⟨0, rfl, by omega, ?_, ?_⟩
          · have e1 := Heq.out
            rw [ec, el] at e1
            have e2 := vw_end2 (w := w) (w' := (w.drewN 0).setCell ⟨zb, zo, none⟩ (.int .u64 l0)) (zb := zb) (zo := zo) (xb := xb) (xo := xo) (y := y) hn0 (k := 0) (by
              rw [Val_one, Val_one, wd_setCell_same (w := w.drewN 0) cz]
              omega) (fun j h1 h2 => absurd h2 (by omega))
            have e3 : Val ((w.drewN 0).setCell ⟨zb, zo, none⟩ (.int .u64 l0)) zb zo 1 + y = Val w xb xo 1 := by simpa using e2
            refine Eq.trans e3 ?_
            show Val w xb xo 1 = Val w xb xo 1 + 0 * WB
            rw [Nat.zero_mul]
            rfl
          · exact Chg.drewN (Chg.setW (S := Rng zb zo 1) (w := w) (Chg.refl _ _) hz0 HL0.out (fun _ => ⟨rfl, by omega, by omega⟩)) _
      · have i1 : (1 : Int) < (n : Int) := by omega
        have i2 : (1 : Int) ≤ (n : Int) := by omega
        have hzc1 : ¬ zc = 1 := by omega
        have hxc1 : ¬ xc = 1 := by omega
        go_enter Tryz.func184, Tryz.ntmps184
        go_wp2_with fail
        refine (bits_Sub _ _ 0 (by omega) _).mono ?_
        rintro e w' ⟨rfl, rfl⟩
        go_wp2_with fail
        go_quiet (fail)
        go_wp2_with fail
        have A1 : ∀ i, i < n - 1 → IsW ((w.drewN 0).setCell ⟨zb, zo, none⟩ (.int .u64 l0)) xb (xo + 1 + i) := fun i hi => by
          have := hx (1 + i) (by omega)
          rw [← Nat.add_assoc] at this
          exact IsI.setW (w := w) hz0 HL0.out _ _ this
        have A2 : Wr ((w.drewN 0).setCell ⟨zb, zo, none⟩ (.int .u64 l0)) zb (zo + 1) (n - 1) := ⟨fun i hi => by
          have := hz.isW (1 + i) (by omega)
          rw [← Nat.add_assoc] at this
          exact IsI.setW (w := w) hz0 HL0.out _ _ this, Plain.setCell (w := w) hz.plain _ _⟩
        go_region_law (refine step_copyW rfl (.tmp 40) (.tmp 42) 84 84 rfl 149 Tryz.underlying84 (by kernel_rfl) zb (zo + 1) (n - 1) (zc - 1) xb (xo + 1) (n - 1) (xc - 1) rfl rfl (n - 1) ?_ ?_ ?_ ?_; (simp); (exact A1); (exact ⟨A2.isW, A2.plain⟩); (intro w2 hc2 hv2))
        all_goals
          go_wp2_with fail
          go_ret
          have C1 : Chg (Rng zb zo n) w ((w.drewN 0).setCell ⟨zb, zo, none⟩ (.int .u64 l0)) := Chg.setW (w := w) (Chg.refl _ _) hz0 HL0.out (fun _ => ⟨rfl, by omega, by omega⟩)
          refine ⟨0, rfl, by omega, ?_, ?_⟩
          · have e1 := Heq.out
            rw [ec, el] at e1
            refine vw_end2 hn0 (k := 0) ?_ (fun j h1 h2 => ?_)
            · rw [Val_one, Val_one, wd_congr (hc2.cell zb zo (C1.plain zb hz.plain).lt (by unfold Rng; omega))]
              have e2 : wd ((w.drewN 0).setCell ⟨zb, zo, none⟩ (.int .u64 l0)) zb zo = l0 := wd_setCell_same (w := w) cz
              refine (congrArg (· + y) e2).trans ?_
              show l0 + y = _
              omega
            · have e3 := hv2.out (j - 1) (by omega)
              rw [show zo + 1 + (j - 1) = zo + j by omega, show xo + 1 + (j - 1) = xo + j by omega] at e3
              exact e3.trans (wd_setCell_ne (w := w) (.inl hb))
          · refine ((C1.drewN nq).drew).then hc2 (fun x o _ h => ?_)
            obtain ⟨h1, h2, h3⟩ := h
            exact ⟨h1, by omega, by omega⟩
  · have h01 : c0 = 1 := by have := Hle.out; rw [ec] at this; omega
    subst h01
    have C1 : Chg (Rng zb zo 1) w ((w.drewN 0).setCell ⟨zb, zo, none⟩ (.int .u64 l0)) := Chg.setW (w := w) (Chg.refl _ _) hz0 HL0.out (fun _ => ⟨rfl, by omega, by omega⟩)
    have V1 : Val ((w.drewN 0).setCell ⟨zb, zo, none⟩ (.int .u64 l0)) zb zo 1 + y = Val w xb xo 1 + WB ^ 1 := by
      have e1 := Heq.out
      rw [ec, el] at e1
      rw [Val_one, Val_one, wd_setCell_same (w := w.drewN 0) cz, Nat.pow_one]
      omega
    have HC1 := Lib.hid C1; have HV1 := Lib.hid V1
    clear C1 V1 h0
    go_enter Tryz.func184, Tryz.ntmps184
    go_wp2_with fail
    refine (bits_Sub _ _ 0 (by omega) _).mono ?_
    rintro e w' ⟨rfl, rfl⟩
    go_wp2_with fail
    go_loopw [9] (fun i wr => ∃ k : Nat, 1 ≤ k ∧ k ≤ n ∧ i = .int .i64 k ∧ Hid (Val wr zb zo k + y = Val w xb xo k + WB ^ k) ∧ Hid (Chg (Rng zb zo k) w wr)) (fun i _ => n - (intOf i).toNat)
    case atStart => exact ⟨1, by omega, by omega, rfl, HV1, HC1⟩
    case round =>
      obtain ⟨k, hk1, hk, rfl, hV, HC⟩ := hrel
      have hC := HC.out
      by_cases hlt : k < n
      · have hxk := hx k hlt
        have hzk := hC.isW _ _ (hz.isW k hlt)
        have cxk : wr.cell? ⟨xb, xo + k, none⟩ = some (.int .u64 (wd w xb (xo + k) : Nat)) := (hC.cell _ _ hxk.block (by unfold Rng; omega)).trans hxk.cell
        have czk := hzk.cell
        have fzk : wr.frozen? ⟨zb, zo + k, none⟩ = false := (hC.plain _ hz.plain).free _
        have i1 : (k : Int) < (n : Int) := by omega
        obtain ⟨xk, hxk'⟩ : ∃ xk, xk = wd w xb (xo + k) := ⟨_, rfl⟩
        have hxlt := hxk.lt
        rw [← hxk'] at cxk hxlt
        have HX := Lib.hid hxk'; have HXl := Lib.hid hxlt
        clear hxk' hxlt hC
        by_cases hmax : xk = 0
        · have t1 : ((xk : Int) != 0) = false := by
            rw [bne_eq_false_iff_eq]; omega
          have HM := Lib.hid hmax
          clear hmax
          go_wp2_with fail
          go_roundw
          case rel =>
            refine ⟨k + 1, by omega, by omega, by go_num, Lib.hid ?_, Lib.hid ?_⟩
            · rw [show Val (wr.setCell ⟨zb, zo + k, none⟩ (.int .u64 18446744073709551615)) zb zo (k + 1) = _ from Val_set hzk (v := WB - 1), Val_succ w xb, ← HX.out, HM.out, Nat.zero_mul, Nat.add_zero, Nat.pow_succ]
              have e1 := hV.out
              have e2 : (WB - 1 + 1) * WB ^ k = WB * WB ^ k := rfl
              rw [Nat.add_mul, Nat.one_mul] at e2
              rw [Nat.mul_comm (WB ^ k)]
              omega
            · exact (HC.out.mono (fun b o _ h => ⟨h.1, h.2.1, by have := h.2.2; omega⟩)).setW (n := WB - 1) hzk (by have := WB_pos; omega) (fun _ => ⟨rfl, by omega, by omega⟩)
          case measure => simp [intOf]; omega
        · have t1 : ((xk : Int) != 0) = true := by
            rw [bne_iff_ne]; omega
          have e1 : IntKind.u64.wrap ((xk : Int) - 1) = ((xk - 1 : Nat) : Int) := by
            have := HXl.out
            rw [show (xk : Int) - 1 = ((xk - 1 : Nat) : Int) by omega, wrap_cast, Nat.mod_eq_of_lt (by omega)]
          have hx1 : xk - 1 < WB := by have := HXl.out; omega
          have hmx : xk - 1 + 1 = xk := by omega
          obtain ⟨v, hv⟩ : ∃ v, v = xk - 1 := ⟨_, rfl⟩
          rw [← hv] at hmx
          have HMX := Lib.hid hmx
          clear hmx
          rw [← hv] at e1 hx1
          have HV := Lib.hid hv; have HX1 := Lib.hid hx1
          clear hv hx1 hmax
          have C2 : Chg (Rng zb zo (k + 1)) w (wr.setCell ⟨zb, zo + k, none⟩ (.int .u64 v)) := (HC.out.mono (fun b o _ h => ⟨h.1, h.2.1, by have := h.2.2; omega⟩)).setW hzk HX1.out (fun _ => ⟨rfl, by omega, by omega⟩)
          have V2 : Val (wr.setCell ⟨zb, zo + k, none⟩ (.int .u64 v)) zb zo (k + 1) + y = Val w xb xo (k + 1) := by
            rw [Val_set hzk, Val_succ w xb, ← HX.out, ← HMX.out, Nat.add_mul, Nat.one_mul]
            have := hV.out
            omega
          have HC2 := Lib.hid C2; have HV2 := Lib.hid V2
          have HCn := Lib.hid (C2.mono (T := Rng zb zo n) (fun b o _ h => ⟨h.1, h.2.1, by have := h.2.2; omega⟩))
          clear C2 V2
          by_cases hsame : xb = zb ∧ xo = zo
          · obtain ⟨rfl, rfl⟩ := hsame
            have hptr := fun W => neq_same ⟨xb, xo, none⟩ W
            go_wp2_with fail
            go_quiet (fail)
            go_wp2_with fail
            go_ret
            refine ⟨0, rfl, by omega, ?_, HCn.out.drewN _⟩
            exact vw_end2 hlt (k := k) HV2.out (fun j h1 h2 => wd_congr (HC2.out.cell _ _ (hx j h2).block (by unfold Rng; omega)))
          · have hb : xb ≠ zb := by omega
            have hptr : ∀ m, (binOp .neq 261 (.pointer (some ⟨zb, zo, none⟩)) (.pointer (some ⟨xb, xo, none⟩))).run Tryz.prog ((wr.setCell ⟨zb, zo + k, none⟩ (.int .u64 v)).drewN m) = .ok (.bool true) ((wr.setCell ⟨zb, zo + k, none⟩ (.int .u64 v)).drewN m) :=
              fun m => neq_other (fun e => hb (by cases e; rfl)) (HC2.out.plain _ hz.plain) (HC2.out.plain _ hpx)
            have i2 : (k : Int) + 1 ≤ (n : Int) := by omega
            have i0' : 0 ≤ (k : Int) + 1 := by omega
            by_cases hkn : k + 1 = n
            · have hcopy : ∀ (ty : TypeId) (dp sp : Option Addr) (c c' : Nat) (W : World), (Builtin.copy_ #[84, 84] ty #[.slice dp (n - (k + 1)) c, .slice sp (n - (k + 1)) c']).run Tryz.prog W = .ok (goInt 0) W :=
                fun ty dp sp c c' W => run_copy_none W 84 84 ty 149 dp sp _ _ _ _ Tryz.underlying84 (by kernel_rfl) (by simp; omega)
              have HE := Lib.hid (vw_end2 hlt (k := k) HV2.out (fun j h1 h2 => absurd h2 (by omega)))
              clear hkn
              have et : ((k : Int) + 1).toNat = k + 1 := by omega
              have ek : IntKind.i64.wrap ((k : Int) + 1) = (k : Int) + 1 := IntWalk.i64_in _ (by omega)
              go_wp2_with fail
              go_quiet (fail)
              go_wp2_with fail
              go_quiet (fail)
              all_goals go_wp2_with fail
              all_goals go_ret
              all_goals exact ⟨0, rfl, Nat.zero_le _, HE.out, HCn.out.drewN _⟩
            · have hk2 : k + 1 < n := by omega
              have hzc1 : ¬ zc = k + 1 := by omega
              have hxc1 : ¬ xc = k + 1 := by omega
              have A1 : ∀ i, i < n - (k + 1) → IsW (wr.setCell ⟨zb, zo + k, none⟩ (.int .u64 v)) xb (xo + (k + 1) + i) := fun i hi => by
                have := HC2.out.isW _ _ (hx (k + 1 + i) (by omega))
                rwa [← Nat.add_assoc] at this
              have A2 : Wr (wr.setCell ⟨zb, zo + k, none⟩ (.int .u64 v)) zb (zo + (k + 1)) (n - (k + 1)) := ⟨fun i hi => by
                have := HC2.out.isW _ _ (hz.isW (k + 1 + i) (by omega))
                rwa [← Nat.add_assoc] at this, HC2.out.plain _ hz.plain⟩
              have et : ((k : Int) + 1).toNat = k + 1 := by omega
              have ek : IntKind.i64.wrap ((k : Int) + 1) = (k : Int) + 1 := IntWalk.i64_in _ (by omega)
              go_wp2_with fail
              go_quiet (fail)
              go_wp2_with fail
              go_region_law (refine step_copyW rfl (.tmp 69) (.tmp 73) 84 84 rfl 149 Tryz.underlying84 (by kernel_rfl) zb (zo + (k + 1)) (n - (k + 1)) (zc - (k + 1)) xb (xo + (k + 1)) (n - (k + 1)) (xc - (k + 1)) ?_ ?_ (n - (k + 1)) ?_ ?_ ?_ ?_; (simp [Act.eval, Act.put]); (simp [Act.eval, Act.put]); (simp); (exact A1); (exact ⟨A2.isW, A2.plain⟩); (intro w2 hc2 hv2))
              all_goals go_wp2_with fail
              all_goals
                clear ek et
                go_ret
                refine ⟨0, rfl, by omega, ?_, ?_⟩
                · refine vw_end2 hlt (k := k) ?_ (fun j h1 h2 => ?_)
                  · rw [Val_congr (w := wr.setCell ⟨zb, zo + k, none⟩ (.int .u64 v)) (fun i hi => wd_congr (hc2.cell _ _ ((HC2.out.isW _ _ (hz.isW i (by omega))).block) (by unfold Rng; omega)))]
                    exact HV2.out
                  · have e3 := hv2.out (j - (k + 1)) (by omega)
                    rw [show zo + (k + 1) + (j - (k + 1)) = zo + j by omega, show xo + (k + 1) + (j - (k + 1)) = xo + j by omega] at e3
                    exact e3.trans (wd_congr (HC2.out.cell _ _ (hx j h2).block (by unfold Rng; omega)))
                · refine ((HCn.out.drewN _).drew).then hc2 (fun x o _ h => ?_)
                  obtain ⟨h1, h2, h3⟩ := h
                  exact ⟨h1, by omega, by omega⟩
      · have hkn : k = n := by omega
        subst hkn
        go_wp2_with fail
        go_ret
        exact ⟨1, rfl, by omega, by rw [Nat.one_mul]; exact hV.out, HC.out⟩
/-- A slice of words of one's own: n words, c places; no block of a package-level variable. -/
structure NW (w : World) (b o n c : Nat) : Prop where
  le : n ≤ c
  max : c ≤ maxLen
  isW : ∀ i, i < c → IsW w b (o + i)
  plain : Plain w b
  own : 17 ≤ b
theorem NW.wr {w : World} {b o n c : Nat} (h : NW w b o n c) (k m : Nat) (hk : k + m ≤ c) : Wr w b (o + k) m := ⟨fun i hi => by rw [Nat.add_assoc]; exact h.isW _ (by omega), h.plain⟩
theorem NW.chg {w w' : World} {b o n c : Nat} {S : Nat → Nat → Prop} (h : NW w b o n c) (hc : Chg S w w') : NW w' b o n c := ⟨h.le, h.max, fun i hi => hc.isW _ _ (h.isW i hi), hc.plain _ h.plain, h.own⟩
theorem NW.len {w : World} {b o n c m : Nat} (h : NW w b o n c) (hm : m ≤ c) : NW w b o m c := ⟨hm, h.max, h.isW, h.plain, h.own⟩
theorem NW.lt {w : World} {b o n c : Nat} (h : NW w b o n c) : b < w.heap.size := h.plain.lt
theorem NW.drewN {w : World} {b o n c : Nat} (h : NW w b o n c) (m : Nat) : NW (w.drewN m) b o n c := ⟨h.le, h.max, h.isW, h.plain, h.own⟩
/-- The places that a slice value has: all up to its capacity. -/
def Fp : Value → Nat → Nat → Prop
  | .slice (some a) _ c => Rng a.block a.off c
  | _ => No
/-- A slice of words, nil or of one's own. -/
def Ow (w : World) (v : Value) : Prop := v = .slice none 0 0 ∨ ∃ b o n c, v = .slice (some ⟨b, o, none⟩) n c ∧ NW w b o n c
/-- A natural number: its words, the last one not 0. -/
def Nt (w : World) (v : Value) (X : Nat) : Prop := (v = .slice none 0 0 ∧ X = 0) ∨ ∃ b o n c, v = .slice (some ⟨b, o, none⟩) n c ∧ NW w b o n c ∧ Val w b o n = X ∧ (n = 0 ∨ wd w b (o + (n - 1)) ≠ 0)
theorem Nt.ow {w : World} {v : Value} {X : Nat} (h : Nt w v X) : Ow w v := by
  rcases h with ⟨h, _⟩ | ⟨b, o, n, c, h, hn, _⟩
  · exact .inl h
  · exact .inr ⟨b, o, n, c, h, hn⟩
theorem Ow.chg {w w' : World} {v : Value} {S : Nat → Nat → Prop} (h : Ow w v) (hc : Chg S w w') : Ow w' v := by
  rcases h with h | ⟨b, o, n, c, h, hn⟩
  · exact .inl h
  · exact .inr ⟨b, o, n, c, h, hn.chg hc⟩
theorem Nt.chg {w w' : World} {v : Value} {X : Nat} {S : Nat → Nat → Prop} (h : Nt w v X) (hc : Chg S w w') (hd : ∀ b o, Fp v b o → ¬ S b o) : Nt w' v X := by
  rcases h with h | ⟨b, o, n, c, rfl, hn, hv, hz⟩
  · exact .inl h
  · have hw : ∀ i, i < n → wd w' b (o + i) = wd w b (o + i) := fun i hi => wd_congr (hc.cell _ _ hn.lt (hd _ _ (show Rng b o c b (o + i) from ⟨rfl, by omega, by have := hn.le; omega⟩)))
    refine .inr ⟨b, o, n, c, rfl, hn.chg hc, by rw [← hv]; exact Val_congr hw, ?_⟩
    rcases hz with hz | hz
    · exact .inl hz
    · rcases Nat.eq_zero_or_pos n with h0 | h0
      · exact .inl h0
      · exact .inr (by rw [hw _ (by omega)]; exact hz)
theorem Fp.lt {w : World} {v : Value} (h : Ow w v) {b o : Nat} (hf : Fp v b o) : b < w.heap.size := by
  rcases h with rfl | ⟨b', o', n, c, rfl, hn⟩
  · exact hf.elim
  · rw [hf.1]; exact hn.lt
theorem Fp.own {w : World} {v : Value} (h : Ow w v) {b o : Nat} (hf : Fp v b o) : 17 ≤ b := by
  rcases h with rfl | ⟨b', o', n, c, rfl, hn⟩
  · exact hf.elim
  · rw [hf.1]; exact hn.own
/-- The number of words with a last word that is not 0. -/
theorem Val_lt {w : World} {b o n : Nat} (h : ∀ i, i < n → IsW w b (o + i)) : Val w b o n < WB ^ n := V_lt n fun i hi => (h i hi).lt
theorem Val_ge {w : World} {b o n : Nat} (h0 : 0 < n) (hz : wd w b (o + (n - 1)) ≠ 0) : WB ^ (n - 1) ≤ Val w b o n := by
  obtain ⟨m, rfl⟩ : ∃ m, n = m + 1 := ⟨n - 1, by omega⟩
  rw [Val_succ, Nat.add_sub_cancel] at *
  have : 1 * WB ^ m ≤ wd w b (o + m) * WB ^ m := Nat.mul_le_mul_right _ (by omega)
  omega
theorem len_le {w : World} {b o n k : Nat} (hz : n = 0 ∨ wd w b (o + (n - 1)) ≠ 0) (h : Val w b o n < WB ^ k) : n ≤ k := by
  rcases hz with hz | hz
  · omega
  · rcases Nat.lt_or_ge k n with h' | h'
    · have h1 := Val_ge (by omega) hz
      have h2 : WB ^ k ≤ WB ^ (n - 1) := Nat.pow_le_pow_right WB_pos (by omega)
      omega
    · exact h'
/-- Where a new slice lies: where z lay, or in a new block. -/
def From (w w' : World) (z : Value) (b o c : Nat) : Prop := (w' = w ∧ ∃ m, z = .slice (some ⟨b, o, none⟩) m c) ∨ b = w.heap.size
set_option maxHeartbeats 400000 in
/-- nat.make of at least one word. -/
theorem nat_make (z : Value) (n : Nat) (w : World) (hz : Ow w z) (hn0 : 0 < n) (hn : n < 1048576) (hs : 17 ≤ w.heap.size) :
    Calls Tryz.prog 158 #[z, .int .i64 n] w fun e w' => ∃ b o c : Nat, e = .returned (.slice (some ⟨b, o, none⟩) n c) ∧ NW w' b o n c ∧ Chg No w w' ∧ From w w' z b o c := by
  obtain ⟨i, h1, h2, h3, h4⟩ := info_of info149
  have key : ∀ zc : Nat, zc ≤ maxLen → ¬ n ≤ zc → ∀ z : Value, (z = .slice none 0 zc ∨ ∃ b o m, z = .slice (some ⟨b, o, none⟩) m zc) →
      Calls Tryz.prog 158 #[z, .int .i64 n] w fun e w' => ∃ b o c : Nat, e = .returned (.slice (some ⟨b, o, none⟩) n c) ∧ NW w' b o n c ∧ Chg No w w' ∧ From w w' z b o c := by
    intro zc hmax hzc z hzz
    unfold maxLen at hmax
    have c1 : decide (n ≤ zc) = false := by simpa using hzc
    by_cases hn1 : n = 1
    · subst hn1
      have c2 : ¬ (1 : Int) ≤ zc := by omega
      rcases hzz with rfl | ⟨b, o, m, rfl⟩
      all_goals
        go_enter Tryz.func158, Tryz.ntmps158
        go_wp2_with (refine wpList_makeW rfl (.const (.int .i64 1)) (.const (.int .i64 1)) 85 rfl 149 i Tryz.underlying85 h1 h2 h3 h4 1 1 1 1 rfl rfl rfl rfl (by omega) (by omega) ?_; intro w' hc hsz hwr hv)
        go_ret
        exact ⟨w.heap.size, 0, 1, rfl, ⟨by omega, by unfold maxLen; omega, fun i hi => hwr.isW i hi, hwr.plain, hs⟩, hc, .inr rfl⟩
    · have c3 : ((n : Int) == 1) = false := by simp; omega
      have c2 : (zc : Int) < n := by omega
      rcases hzz with rfl | ⟨b, o, m, rfl⟩
      all_goals
        go_enter Tryz.func158, Tryz.ntmps158
        go_wp2_with (refine wpList_makeW rfl (.tmp 15) (.tmp 17) 85 rfl 149 i Tryz.underlying85 h1 h2 h3 h4 _ _ n (n + 4) rfl rfl rfl (by omega) (by omega) (by omega) ?_; intro w' hc hsz hwr hv)
        go_ret
        exact ⟨w.heap.size, 0, n + 4, rfl, ⟨by omega, by unfold maxLen; omega, fun i hi => hwr.isW i hi, hwr.plain, hs⟩, hc, .inr rfl⟩
  rcases hz with rfl | ⟨b, o, m, c, rfl, hN⟩
  · exact key 0 (by unfold maxLen; omega) (by omega) _ (.inl rfl)
  · by_cases hc : n ≤ c
    · have hmax := hN.max
      unfold maxLen at hmax
      have c1 : decide (n ≤ c) = true := by simpa using hc
      have c2 : (n : Int) ≤ c := by omega
      go_enter Tryz.func158, Tryz.ntmps158
      go_wp2_with fail
      go_ret
      exact ⟨b, o, c, rfl, hN.len hc, Chg.refl _ _, .inl ⟨rfl, m, rfl⟩⟩
    · exact key c hN.max hc _ (.inr ⟨b, o, m, rfl⟩)
theorem Val_zeros (w : World) (b o k : Nat) : ∀ m, (∀ j, k ≤ j → j < k + m → wd w b (o + j) = 0) → Val w b o (k + m) = Val w b o k
  | 0, _ => rfl
  | m + 1, h => by
    rw [← Nat.add_assoc, Val_succ, Val_zeros w b o k m (fun j h1 h2 => h j h1 (by omega)), h (k + m) (by omega) (by omega)]
    simp
/-- A result slice: n words of b from o on, as a natural number. -/
def NtAt (w : World) (b o n c X : Nat) : Prop := NW w b o n c ∧ Val w b o n = X ∧ (n = 0 ∨ wd w b (o + (n - 1)) ≠ 0)
theorem NtAt.nt {w : World} {b o n c X : Nat} (h : NtAt w b o n c X) : Nt w (.slice (some ⟨b, o, none⟩) n c) X := .inr ⟨b, o, n, c, rfl, h⟩
set_option maxHeartbeats 400000 in
theorem nat_norm (b o n c : Nat) (w : World) (hz : NW w b o n c) (hn : n < 1048576) :
    Calls Tryz.prog 147 #[.slice (some ⟨b, o, none⟩) n c] w fun e w' => ∃ k : Nat, e = .returned (.slice (some ⟨b, o, none⟩) k c) ∧ NtAt w b o k c (Val w b o n) ∧ k ≤ n ∧ w = w' := by
  have hle := hz.le
  go_enter Tryz.func147, Tryz.ntmps147
  go_wp2_with fail
  go_loop [3] (fun i => ∃ k : Nat, k ≤ n ∧ i = .int .i64 k ∧ Hid (∀ j, k ≤ j → j < n → wd w b (o + j) = 0)) (fun i => (intOf i).toNat)
  case atStart => exact ⟨n, by omega, rfl, Lib.hid (fun j h1 h2 => by omega)⟩
  case round =>
    obtain ⟨k, hk, rfl, hV⟩ := hrel
    by_cases h0 : 0 < k
    · have hc := (hz.isW (k - 1) (by omega)).cell
      have i1 : (0 : Int) < k := by omega
      have i2 : (k : Int) - 1 < n := by omega
      have i3 : 0 ≤ (k : Int) - 1 := by omega
      by_cases hw0 : wd w b (o + (k - 1)) = 0
      · have t1 : ((wd w b (o + (k - 1)) : Int) == 0) = true := by simp [hw0]
        have HW := Lib.hid hw0
        clear hw0
        go_wp2_with fail
        go_round
        case rel =>
          refine ⟨k - 1, by omega, by go_num, Lib.hid (fun j h1 h2 => ?_)⟩
          by_cases e : j = k - 1
          · rw [e]; exact HW.out
          · exact hV.out j (by omega) h2
        case measure => simp [intOf]; omega
      · have t1 : ((wd w b (o + (k - 1)) : Int) == 0) = false := by simp; omega
        have HW := Lib.hid hw0
        clear hw0
        have i4 : (k : Int) ≤ c := by omega
        go_wp2_with fail
        go_ret
        refine ⟨k, rfl, ⟨hz.len (by omega), ?_, .inr HW.out⟩, hk, rfl⟩
        have := Val_zeros w b o k (n - k) (fun j h1 h2 => hV.out j h1 (by omega))
        rw [show k + (n - k) = n by omega] at this
        exact this.symm
    · have hk0 : k = 0 := by omega
      subst hk0
      go_wp2_with fail
      go_ret
      refine ⟨0, rfl, ⟨hz.len (by omega), ?_, .inl rfl⟩, by omega, rfl⟩
      have := Val_zeros w b o 0 n (fun j h1 h2 => hV.out j h1 (by omega))
      rw [Nat.zero_add] at this
      exact this.symm
/-- The same slice, of length 0. -/
def cut0 : Value → Value
  | .slice a _ c => .slice a 0 c
  | v => v
theorem Nt.cut0 {w : World} {z : Value} (h : Ow w z) : Nt w (cut0 z) 0 := by
  rcases h with rfl | ⟨b, o, n, c, rfl, hn⟩
  · exact .inl ⟨rfl, rfl⟩
  · exact .inr ⟨b, o, 0, c, rfl, hn.len (by omega), rfl, .inl rfl⟩
theorem Fp.cut0 {z : Value} {b o : Nat} (h : Fp (cut0 z) b o) : Fp z b o := by
  cases z <;> first | exact h | (rename_i a _ _; cases a <;> exact h)
/-- What a call with a receiver z answers: the number R, where z lies or in a new block; and nothing but z's places has changed. -/
structure Res (w w' : World) (z r : Value) (R : Nat) : Prop where
  nt : Nt w' r R
  fp : ∀ b o, Fp r b o → Fp z b o ∨ w.heap.size ≤ b
  chg : Chg (Fp z) w w'
/-- Two operands of one operation: the same array from the same place on, or apart. -/
def Al (z x : Value) : Prop := (∃ b o n m c, z = .slice (some ⟨b, o, none⟩) m c ∧ x = .slice (some ⟨b, o, none⟩) n c) ∨ (∀ b o, Fp z b o → ¬ Fp x b o)
def Small (X : Nat) : Prop := X < WB ^ 1000
theorem Chg.no {S : Nat → Nat → Prop} {w w' : World} (h : Chg No w w') : Chg S w w' := h.mono fun _ _ _ f => f.elim
set_option maxHeartbeats 400000 in
theorem nat_make0 (z : Value) (w : World) (hz : Ow w z) : Calls Tryz.prog 158 #[z, .int .i64 0] w fun e w' => e = .returned (cut0 z) ∧ w = w' := by
  rcases hz with rfl | ⟨b, o, n, c, rfl, hn⟩
  · go_enter Tryz.func158, Tryz.ntmps158
    go_wp2_with fail
    go_ret
    exact ⟨rfl, rfl⟩
  · have c1 : (0 : Int) ≤ c := by omega
    go_enter Tryz.func158, Tryz.ntmps158
    go_wp2_with fail
    go_ret
    exact ⟨rfl, rfl⟩
set_option maxHeartbeats 400000 in
theorem nat_set (z x : Value) (X : Nat) (w : World) (hz : Ow w z) (hx : Nt w x X) (hX : Small X) (hs : 17 ≤ w.heap.size) :
    Calls Tryz.prog 156 #[z, x] w fun e w' => ∃ r, e = .returned r ∧ Res w w' z r X := by
  by_cases hX0 : X = 0
  · subst hX0
    have hx0 : ∃ a c, x = .slice a 0 c := by
      rcases hx with ⟨rfl, _⟩ | ⟨b, o, n, c, rfl, hn, hv, hz⟩
      · exact ⟨_, _, rfl⟩
      · have := len_le (k := 0) hz (by rw [hv]; exact Nat.one_pos)
        obtain rfl : n = 0 := by omega
        exact ⟨_, _, rfl⟩
    obtain ⟨a, c, rfl⟩ := hx0
    have hres : Res w w z (cut0 z) 0 := ⟨Nt.cut0 hz, fun b o h => .inl h.cut0, Chg.refl _ _⟩
    obtain ⟨az, nz, cz, hzz⟩ : ∃ az nz cz, cut0 z = .slice az 0 cz ∧ nz = 0 := by
      rcases hz with rfl | ⟨b, o, n, c, rfl, _⟩
      · exact ⟨_, 0, _, rfl, rfl⟩
      · exact ⟨_, 0, _, rfl, rfl⟩
    go_enter Tryz.func156, Tryz.ntmps156
    go_wp2_with fail
    refine (nat_make0 z w hz).mono ?_
    rintro e w' ⟨rfl, rfl⟩
    rw [hzz.1] at hres ⊢
    go_wp2_with (refine wpList_copy0 rfl (.tmp 9) (.tmp 10) 85 85 rfl 149 Tryz.underlying85 (by kernel_rfl) _ _ _ _ _ _ rfl rfl rfl ?_)
    go_ret
    exact ⟨_, rfl, hres⟩
  · rcases hx with ⟨rfl, h⟩ | ⟨xb, xo, n, xc, rfl, hn, hv, hzx⟩
    · exact absurd h hX0
    · have hn0 : 0 < n := by
        rcases Nat.eq_zero_or_pos n with h | h
        · subst h; exact absurd hv.symm hX0
        · exact h
      have hnb : n ≤ 1000 := len_le hzx (by rw [hv]; exact hX)
      go_enter Tryz.func156, Tryz.ntmps156
      go_wp2_with fail
      refine (nat_make z n w hz hn0 (by omega) hs).mono ?_
      rintro e w1 ⟨b, o, c, rfl, hN, hc, hfrom⟩
      have hxw : ∀ i, i < n → IsW w1 xb (xo + i) := fun i hi => hc.isW _ _ (hn.isW i (by have := hn.le; omega))
      have hvx : ∀ i, i < n → wd w1 xb (xo + i) = wd w xb (xo + i) := fun i hi => wd_congr (hc.cell _ _ hn.lt (fun f => f))
      have hwz := hN.wr 0 n (by have := hN.le; omega)
      rw [Nat.add_zero] at hwz
      have Hvx := Lib.hid hvx
      have HV := Lib.hid hv
      have Hfrom := Lib.hid hfrom
      clear hvx hv hfrom
      go_wp2_with (refine wpList_copyW rfl (.tmp 9) (.tmp 10) 85 85 rfl 149 Tryz.underlying85 (by kernel_rfl) b o n c xb xo n xc rfl rfl n (by simp) hxw hwz ?_; intro w2 hc2 hv2)
      go_ret
      have hwd : ∀ i, i < n → wd w2 b (o + i) = wd w xb (xo + i) := fun i hi => (hv2.out i hi).trans (Hvx.out i hi)
      refine ⟨_, rfl, ⟨NtAt.nt ⟨hN.chg hc2, (Val_congr2 hwd).trans HV.out, .inr ?_⟩, ?_, ?_⟩⟩
      · rw [hwd (n - 1) (by omega)]
        exact hzx.resolve_left (by omega)
      · rintro b' o' ⟨rfl, h2, h3⟩
        rcases Hfrom.out with ⟨_, m, rfl⟩ | h
        · exact .inl ⟨rfl, h2, h3⟩
        · exact .inr (by omega)
      · refine hc.no.then hc2 ?_
        rintro b' o' hlt ⟨rfl, h2, h3⟩
        rcases Hfrom.out with ⟨_, m, rfl⟩ | h
        · exact ⟨rfl, h2, by have := hN.le; simp at h3 ⊢; omega⟩
        · exact absurd hlt (by simp at h ⊢; omega)
def Apart (z x : Value) : Prop := ∀ b o, Fp z b o → ¬ Fp x b o
set_option maxHeartbeats 400000 in
theorem nat_setWord (z : Value) (x : Nat) (w : World) (hz : Ow w z) (hx : x < WB) (hs : 17 ≤ w.heap.size) :
    Calls Tryz.prog 98 #[z, .int .u64 x] w fun e w' => ∃ r, e = .returned r ∧ Res w w' z r x := by
  by_cases h0 : x = 0
  · subst h0
    have hres : Res w w z (cut0 z) 0 := ⟨Nt.cut0 hz, fun b o h => .inl h.cut0, Chg.refl _ _⟩
    rcases hz with rfl | ⟨b, o, n, c, rfl, hn⟩
    · go_enter Tryz.func98, Tryz.ntmps98
      go_wp2_with fail
      go_ret
      exact ⟨_, rfl, hres⟩
    · have c1 : (0 : Int) ≤ c := by omega
      go_enter Tryz.func98, Tryz.ntmps98
      go_wp2_with fail
      go_ret
      exact ⟨_, rfl, hres⟩
  · have c1 : ((x : Int) == 0) = false := by simp; omega
    have Hx := Lib.hid hx
    clear hx
    go_enter Tryz.func98, Tryz.ntmps98
    go_wp2_with fail
    refine (nat_make z 1 w hz (by omega) (by omega) hs).mono ?_
    rintro e w1 ⟨b, o, c, rfl, hN, hc, hfrom⟩
    have hle := hN.le
    have hw0 : IsW w1 b o := hN.isW 0 (by omega)
    have cz := hw0.cell
    have fz := hN.plain.free o
    have Hfrom := Lib.hid hfrom
    clear hfrom
    go_wp2_with fail
    go_ret
    have hC := Chg.setW (S := Rng b o 1) (Chg.refl _ w1) hw0 Hx.out (fun _ => ⟨rfl, by omega, by omega⟩)
    have hv := wd_setCell_same (k := .u64) (n := x) cz
    refine ⟨_, rfl, ⟨NtAt.nt ⟨hN.chg hC, by rw [Val_one]; exact hv, .inr (by rw [show o + (1 - 1) = o from rfl, hv]; exact h0)⟩, ?_, ?_⟩⟩
    · rintro b' o' ⟨rfl, h2, h3⟩
      rcases Hfrom.out with ⟨_, m, rfl⟩ | h
      · exact .inl ⟨rfl, h2, h3⟩
      · exact .inr (by omega)
    · refine hc.no.then hC ?_
      rintro b' o' hlt ⟨rfl, h2, h3⟩
      rcases Hfrom.out with ⟨_, m, rfl⟩ | h
      · exact ⟨rfl, h2, by simp at h3 ⊢; omega⟩
      · exact absurd hlt (by simp at h ⊢; omega)
/-- alias: false tells that the two are apart. -/
def AliasSays (z x : Value) (b : Bool) : Prop := b = false → Apart z x
set_option maxHeartbeats 1000000 in
theorem alias (z x : Value) (w : World) (hz : Ow w z) (hx : Ow w x) (hal : Al z x) :
    Calls Tryz.prog 155 #[z, x] w fun e w' => ∃ (t : Bool) (m : Nat), e = .returned (.bool t) ∧ AliasSays z x t ∧ w' = w.drewN m := by
  rcases hz with rfl | ⟨b, o, n, c, rfl, hn⟩
  · go_enter Tryz.func155, Tryz.ntmps155
    go_wp2_with fail
    go_quiet (fail)
    go_wp2_with fail
    go_ret
    exact ⟨false, _, rfl, fun _ _ _ f => f.elim, rfl⟩
  · by_cases hc0 : c = 0
    · subst hc0
      go_enter Tryz.func155, Tryz.ntmps155
      go_wp2_with fail
      go_quiet (fail)
      go_wp2_with fail
      go_ret
      exact ⟨false, _, rfl, fun _ b o f => absurd f.2.2 (by simp at *; have := f.2.1; simp at this; omega), rfl⟩
    · have c1 : (0 : Int) < c := by omega
      have c1n : 0 < c := by omega
      have d1 : decide (0 < c) = true := decide_eq_true c1n
      rcases hx with rfl | ⟨xb, xo, xn, xc, rfl, hxn⟩
      · go_enter Tryz.func155, Tryz.ntmps155
        go_wp2_with fail
        go_quiet (fail)
        go_wp2_with fail
        go_ret
        exact ⟨false, _, rfl, fun _ b o _ f => f.elim, rfl⟩
      · by_cases hxc0 : xc = 0
        · subst hxc0
          go_enter Tryz.func155, Tryz.ntmps155
          go_wp2_with fail
          go_quiet (fail)
          go_wp2_with fail
          go_ret
          exact ⟨false, _, rfl, fun _ b o _ f => absurd f.2.2 (by have := f.2.1; simp at this ⊢; omega), rfl⟩
        · have x1 : (0 : Int) < xc := by omega
          have x1n : 0 < xc := by omega
          have d2 : decide (0 < xc) = true := decide_eq_true x1n
          have m1 := hn.max
          have m2 := hxn.max
          unfold maxLen at m1 m2
          have e1 : IntKind.i64.wrap ((c : Int) - 1) = (c : Int) - 1 := IntWalk.i64_in _ (by omega)
          have e2 : IntKind.i64.wrap ((xc : Int) - 1) = (xc : Int) - 1 := IntWalk.i64_in _ (by omega)
          have e3 : ((c : Int) - 1).toNat = c - 1 := by omega
          have e4 : ((xc : Int) - 1).toNat = xc - 1 := by omega
          have i1 : 0 ≤ (c : Int) - 1 := by omega
          have i2 : 0 ≤ (xc : Int) - 1 := by omega
          have i3 : (c : Int) - 1 < c := by omega
          have i4 : (xc : Int) - 1 < xc := by omega
          by_cases hsame : b = xb ∧ o + (c - 1) = xo + (xc - 1)
          · obtain ⟨rfl, hoff⟩ := hsame
            have hp : ∀ W : World, (binOp .eql 261 (.pointer (some ⟨b, o + (c - 1), none⟩)) (.pointer (some ⟨b, xo + (xc - 1), none⟩))).run Tryz.prog W = .ok (.bool true) W := fun W => by rw [hoff]; exact eql_same _ _
            clear m1 m2 hoff
            go_enter Tryz.func155, Tryz.ntmps155
            go_wp2_with fail
            go_quiet (fail)
            go_wp2_with fail
            go_ret
            exact ⟨true, _, rfl, fun h => Bool.noConfusion h, rfl⟩
          · have hp : ∀ m : Nat, (binOp .eql 261 (.pointer (some ⟨b, o + (c - 1), none⟩)) (.pointer (some ⟨xb, xo + (xc - 1), none⟩))).run Tryz.prog (w.drewN m) = .ok (.bool false) (w.drewN m) :=
              fun m => eql_other (fun e => hsame (by simp at e; omega)) hn.plain hxn.plain
            have hfin : AliasSays (.slice (some ⟨b, o, none⟩) n c) (.slice (some ⟨xb, xo, none⟩) xn xc) false := fun _ => by
              rcases hal with ⟨b', o', n', m', c', h1, h2⟩ | h
              · cases h1; cases h2; exact absurd ⟨rfl, rfl⟩ hsame
              · exact h
            clear m1 m2 hsame
            go_enter Tryz.func155, Tryz.ntmps155
            go_wp2_with fail
            go_quiet (fail)
            go_wp2_with fail
            go_ret
            exact ⟨false, _, rfl, hfin, rfl⟩
def cmpN (X Y : Nat) : Int := if X < Y then -1 else if Y < X then 1 else 0
theorem cmpN_lt {X Y : Nat} (h : X < Y) : cmpN X Y = -1 := by simp [cmpN, h]
theorem cmpN_gt {X Y : Nat} (h : Y < X) : cmpN X Y = 1 := by simp [cmpN, h]; omega
theorem cmpN_eq (X : Nat) : cmpN X X = 0 := by simp [cmpN]
/-- What is known of a natural number's slice. -/
theorem Nt.cases {w : World} {v : Value} {X : Nat} (h : Nt w v X) (hX : Small X) : ∃ (a : Option Addr) (n c : Nat), v = .slice a n c ∧ n ≤ 1000 ∧ (n = 0 → X = 0) ∧ X < WB ^ n ∧ (0 < n → WB ^ (n - 1) ≤ X ∧ ∃ b o, a = some ⟨b, o, none⟩ ∧ NW w b o n c ∧ Val w b o n = X ∧ wd w b (o + (n - 1)) ≠ 0) := by
  rcases h with ⟨rfl, rfl⟩ | ⟨b, o, n, c, rfl, hn, hv, hz⟩
  · exact ⟨none, 0, 0, rfl, by omega, fun _ => rfl, by simp, fun h => absurd h (by omega)⟩
  · refine ⟨_, n, c, rfl, len_le hz (by rw [hv]; exact hX), fun h => ?_, ?_, fun h => ?_⟩
    · subst h; exact hv.symm
    · rw [← hv]; exact Val_lt fun i hi => hn.isW i (by have := hn.le; omega)
    · have hz' := hz.resolve_left (by omega)
      exact ⟨by rw [← hv]; exact Val_ge h hz', b, o, rfl, hn, hv, hz'⟩
theorem Val_tail {w : World} {b o b' o' k n : Nat} (hk : k < n) (h : ∀ j, k < j → j < n → wd w b (o + j) = wd w b' (o' + j)) :
    ∃ T, Val w b o n = Val w b o (k + 1) + WB ^ (k + 1) * T ∧ Val w b' o' n = Val w b' o' (k + 1) + WB ^ (k + 1) * T := by
  obtain ⟨m, rfl⟩ : ∃ m, n = (k + 1) + m := ⟨n - (k + 1), by omega⟩
  refine ⟨Val w b (o + (k + 1)) m, Val_split _ _ _ _ _, ?_⟩
  rw [Val_split]
  congr 2
  refine V_congr m fun i hi => ?_
  have := h (k + 1 + i) (by omega) (by omega)
  rw [show o + (k + 1 + i) = o + (k + 1) + i by omega, show o' + (k + 1 + i) = o' + (k + 1) + i by omega] at this
  exact this.symm
theorem Val_top {w : World} {b o b' o' k : Nat} (hx : ∀ i, i < k + 1 → IsW w b (o + i)) (h : wd w b (o + k) < wd w b' (o' + k)) : Val w b o (k + 1) < Val w b' o' (k + 1) := by
  rw [Val_succ, Val_succ]
  have h1 := Val_lt (n := k) fun i hi => hx i (by omega)
  have h2 : (wd w b (o + k) + 1) * WB ^ k ≤ wd w b' (o' + k) * WB ^ k := Nat.mul_le_mul_right _ h
  rw [Nat.add_mul, Nat.one_mul] at h2
  omega
/-- Only draws. -/
def Drew (w w' : World) : Prop := ∃ m, w' = w.drewN m
theorem Drew.refl (w : World) : Drew w w := ⟨0, rfl⟩
theorem Drew.drewN {w w' : World} (h : Drew w w') (n : Nat) : Drew w (w'.drewN n) := by
  obtain ⟨m, rfl⟩ := h
  exact ⟨m + n, by simp⟩
set_option maxHeartbeats 1000000 in
theorem nat_cmp (x y : Value) (X Y : Nat) (w : World) (hx : Nt w x X) (hy : Nt w y Y) (hX : Small X) (hY : Small Y) :
    Calls Tryz.prog 118 #[x, y] w fun e w' => e = .returned (.int .i64 (cmpN X Y)) ∧ Drew w w' := by
  obtain ⟨xa, n, xc, rfl, hn, hx0, hxl, hxn⟩ := hx.cases hX
  obtain ⟨ya, m, yc, rfl, hm, hy0, hyl, hyn⟩ := hy.cases hY
  have mlt : ∀ {X Y n m : Nat}, X < WB ^ n → (0 < m → WB ^ (m - 1) ≤ Y) → n < m → X < Y := fun {X Y n m} h1 h2 h => by
    have := h2 (by omega)
    have h3 : WB ^ n ≤ WB ^ (m - 1) := Nat.pow_le_pow_right WB_pos (by omega)
    omega
  clear hX hY hx hy
  rcases Nat.lt_trichotomy n m with h | h | h
  · have hlt := cmpN_lt (mlt hxl (fun h => (hyn h).1) h)
    have H := Lib.hid hlt
    have c1 : (n : Int) < m := by omega
    have c2 : ((n : Int) != m) = true := by rw [bne_iff_ne]; omega
    clear hlt hx0 hxl hxn hy0 hyl hyn mlt
    go_enter Tryz.func118, Tryz.ntmps118
    go_wp2_with fail
    go_ret
    exact ⟨by rw [H.out]; rfl, 0, rfl⟩
  · subst h
    by_cases h0 : n = 0
    · subst h0
      have e1 : cmpN X Y = 0 := by rw [hx0 rfl, hy0 rfl]; rfl
      have H := Lib.hid e1
      clear e1 hx0 hxl hxn hy0 hyl hyn mlt
      go_enter Tryz.func118, Tryz.ntmps118
      go_wp2_with fail
      go_ret
      exact ⟨by rw [H.out]; rfl, 0, rfl⟩
    · obtain ⟨_, xb, xo, rfl, hxN, hxv, hxz⟩ := hxn (by omega)
      obtain ⟨_, yb, yo, rfl, hyN, hyv, hyz⟩ := hyn (by omega)
      have c1 : ((n : Int) != n) = false := by simp
      have c2 : ((n : Int) == 0) = false := by simp; omega
      have xle := hxN.le
      have yle := hyN.le
      have Hx := Lib.hid hxv
      have Hy := Lib.hid hyv
      clear hxv hyv hxz hyz hx0 hxl hxn hy0 hyl hyn mlt
      go_enter Tryz.func118, Tryz.ntmps118
      go_wp2_with fail
      go_loopw [7] (fun i wr => ∃ k q : Nat, k < n ∧ i = .int .i64 k ∧ wr = w.drewN q ∧ Hid (∀ j, k < j → j < n → wd w xb (xo + j) = wd w yb (yo + j))) (fun i _ => (intOf i).toNat)
      case atStart => exact ⟨n - 1, 0, by omega, by go_num, rfl, Lib.hid (fun j h1 h2 => by omega)⟩
      case round =>
        obtain ⟨k, q, hk, rfl, rfl, hV⟩ := hrel
        have hxk := (hxN.isW k (by omega)).cell
        have hyk := (hyN.isW k (by omega)).cell
        have i1 : (k : Int) < n := by omega
        obtain ⟨T, hT1, hT2⟩ := Val_tail hk hV.out
        by_cases hk0 : 0 < k
        · have i2 : (0 : Int) < k := by omega
          have d1 : decide (0 < k) = true := decide_eq_true hk0
          by_cases heq : wd w xb (xo + k) = wd w yb (yo + k)
          · have t1 : ((wd w xb (xo + k) : Int) == (wd w yb (yo + k) : Int)) = true := by simp; omega
            have t2 : (wd w xb (xo + k) == wd w yb (yo + k)) = true := by simp; omega
            have HE := Lib.hid heq
            have HT := Lib.hid hT1
            clear heq hT1 hT2
            go_wp2_with fail
            go_quiet (fail)
            go_wp2_with fail
            go_roundw
            case rel =>
              refine ⟨k - 1, _, by omega, by go_num, rfl, Lib.hid (fun j h1 h2 => ?_)⟩
              by_cases e : j = k
              · rw [e]; exact HE.out
              · exact hV.out j (by omega) h2
            case measure => simp [intOf]; omega
          · have t1 : (wd w xb (xo + k) == wd w yb (yo + k)) = false := by simp; omega
            have hk1 : k < n := hk
            rcases Nat.lt_or_gt_of_ne heq with hl | hl
            · have hfin : cmpN X Y = -1 := cmpN_lt (by
                rw [← Hx.out, ← Hy.out, hT1, hT2]
                have := Val_top (fun i hi => hxN.isW i (by omega)) hl
                omega)
              have t2 : decide (wd w xb (xo + k) < wd w yb (yo + k)) = true := decide_eq_true hl
              have HF := Lib.hid hfin
              clear hT1 hT2 hl hfin
              go_wp2_with fail
              go_quiet (fail)
              go_wp2_with fail
              go_quiet (fail)
              go_wp2_with fail
              go_ret
              exact ⟨by rw [HF.out]; rfl, by repeat (first | exact Drew.refl _ | refine Drew.drewN ?_ _ | refine Drew.drew ?_)⟩
            · have hfin : cmpN X Y = 1 := cmpN_gt (by
                rw [← Hx.out, ← Hy.out, hT1, hT2]
                have := Val_top (fun i hi => hyN.isW i (by omega)) hl
                omega)
              have t2 : decide (wd w xb (xo + k) < wd w yb (yo + k)) = false := decide_eq_false (by omega)
              have t3 : decide (wd w yb (yo + k) < wd w xb (xo + k)) = true := decide_eq_true hl
              have HF := Lib.hid hfin
              clear hT1 hT2 hl hfin
              go_wp2_with fail
              go_quiet (fail)
              go_wp2_with fail
              go_quiet (fail)
              go_wp2_with fail
              go_quiet (fail)
              go_wp2_with fail
              go_ret
              exact ⟨by rw [HF.out]; rfl, by repeat (first | exact Drew.refl _ | refine Drew.drewN ?_ _ | refine Drew.drew ?_)⟩
        · have hk00 := Lib.hid (show k = 0 by omega)
          have d1 : decide (0 < k) = false := decide_eq_false hk0
          have i0 : decide ((0 : Int) < (k : Int)) = false := decide_eq_false (by omega)
          by_cases heq : wd w xb (xo + k) = wd w yb (yo + k)
          · have hfin : cmpN X Y = 0 := by
              have h0 : Val w xb xo (k + 1) = Val w yb yo (k + 1) := by
                rw [hk00.out] at heq ⊢
                rw [Val_one, Val_one]; exact heq
              rw [← Hx.out, ← Hy.out, hT1, hT2, h0]
              exact cmpN_eq _
            have t2 : decide (wd w xb (xo + k) < wd w yb (yo + k)) = false := decide_eq_false (by omega)
            have t3 : decide (wd w yb (yo + k) < wd w xb (xo + k)) = false := decide_eq_false (by omega)
            have HF := Lib.hid hfin
            clear hT1 hT2 heq hfin hk0
            go_wp2_with fail
            go_quiet (fail)
            go_wp2_with fail
            go_quiet (fail)
            go_wp2_with fail
            go_quiet (fail)
            go_wp2_with fail
            go_ret
            exact ⟨by rw [HF.out]; rfl, by repeat (first | exact Drew.refl _ | refine Drew.drewN ?_ _ | refine Drew.drew ?_)⟩
          · rcases Nat.lt_or_gt_of_ne heq with hl | hl
            · have hfin : cmpN X Y = -1 := cmpN_lt (by
                rw [← Hx.out, ← Hy.out, hT1, hT2]
                have := Val_top (fun i hi => hxN.isW i (by omega)) hl
                omega)
              have t2 : decide (wd w xb (xo + k) < wd w yb (yo + k)) = true := decide_eq_true hl
              have HF := Lib.hid hfin
              clear hT1 hT2 hl hfin
              go_wp2_with fail
              go_quiet (fail)
              go_wp2_with fail
              go_quiet (fail)
              go_wp2_with fail
              go_ret
              exact ⟨by rw [HF.out]; rfl, by repeat (first | exact Drew.refl _ | refine Drew.drewN ?_ _ | refine Drew.drew ?_)⟩
            · have hfin : cmpN X Y = 1 := cmpN_gt (by
                rw [← Hx.out, ← Hy.out, hT1, hT2]
                have := Val_top (fun i hi => hyN.isW i (by omega)) hl
                omega)
              have t2 : decide (wd w xb (xo + k) < wd w yb (yo + k)) = false := decide_eq_false (by omega)
              have t3 : decide (wd w yb (yo + k) < wd w xb (xo + k)) = true := decide_eq_true hl
              have HF := Lib.hid hfin
              clear hT1 hT2 hl hfin
              go_wp2_with fail
              go_quiet (fail)
              go_wp2_with fail
              go_quiet (fail)
              go_wp2_with fail
              go_quiet (fail)
              go_wp2_with fail
              go_ret
              exact ⟨by rw [HF.out]; rfl, by repeat (first | exact Drew.refl _ | refine Drew.drewN ?_ _ | refine Drew.drew ?_)⟩
  · have hlt := cmpN_gt (mlt hyl (fun h => (hxn h).1) h)
    have H := Lib.hid hlt
    have c1 : (m : Int) < n := by omega
    have c2 : ((n : Int) != m) = true := by rw [bne_iff_ne]; omega
    have c3 : ¬ (n : Int) < m := by omega
    clear hlt hx0 hxl hxn hy0 hyl hyn mlt
    go_enter Tryz.func118, Tryz.ntmps118
    go_wp2_with fail
    go_ret
    exact ⟨by rw [H.out]; rfl, 0, rfl⟩
end Go.Proofs.YtacfhndledcmgaaGreatDoor
