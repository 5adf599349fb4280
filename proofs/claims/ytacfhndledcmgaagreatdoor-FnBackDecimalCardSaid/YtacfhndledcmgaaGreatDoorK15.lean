/- Lemmas for the law FnBackDecimal: fmtE. Conditions: those in each theorem; none besides. -/
import Derived.Test.YtacfhndledcmgaaGreatDoorK14
set_option linter.unusedVariables false
set_option linter.unusedSimpArgs false
namespace Go.Proofs.YtacfhndledcmgaaGreatDoor
open Go.RowKit
set_option maxRecDepth 100000 in
set_option maxHeartbeats 4000000 in
theorem dec_fmtE (z : Value) (pre : List Nat) (k mb mo mc b : Nat) (ds : List Nat) (x : Int) (w : World) (hz : Ls .u8 256 w z pre) (h : DeX w b mb mo mc ds x) (hpre : pre.length ≤ 1000) (hk : k ≤ 100000) (hl : ds.length ≤ 200000)
    (hx1 : -900 ≤ x) (hx2 : x ≤ 900) (hzm : ∀ y o, Fp z y o → y ≠ mb) (h0 : 0 < ds.length) (hg : Glob w) :
    Calls Tryz.prog 197 #[z, .int .u8 101, .int .i64 k, .agg #[.slice (some ⟨mb, mo, none⟩) ds.length mc, .int .i64 x]] w fun e w' => ∃ r, e = .returned r ∧ App .u8 256 w w' z r (pre ++ eTx ds x k) := by
  have h17 := hg.size
  have hD := h.box h17
  have A0 := (App.refl hz).no ((Chg.refl No w).alloc (.cells #[.slice (some ⟨mb, mo, none⟩) ds.length mc, .int .i64 x] 235))
  have hlt : ∀ y o, Fp z y o → y < w.heap.size := fun y o f => (hz.fp_lt f).1
  have keep : Hid (∀ w' r l, App .u8 256 (w.alloc (.cells #[.slice (some ⟨mb, mo, none⟩) ds.length mc, .int .i64 x] 235)) w' z r l → DeX w' w.heap.size mb mo mc ds x) := Lib.hid fun w' r l ha => hD.chg ha.chg (fun o f => by have := hlt _ _ f; omega) (fun o f => hzm _ _ f rfl)
  have hzg : ∀ y o, Fp z y o → 17 ≤ y := fun y o f => (hz.fp_lt f).2
  have HGl : Hid (∀ w' r l, App .u8 256 (w.alloc (.cells #[.slice (some ⟨mb, mo, none⟩) ds.length mc, .int .i64 x] 235)) w' z r l → Glob w') := Lib.hid fun w' r l ha => (hg.no ((Chg.refl No w).alloc _)).chg ha.chg hzg
  have hA1 : App .u8 256 (w.alloc (.cells #[.slice (some ⟨mb, mo, none⟩) ds.length mc, .int .i64 x] 235)) (w.alloc (.cells #[.slice (some ⟨mb, mo, none⟩) ds.length mc, .int .i64 x] 235)) z z pre := App.refl (hz.alloc km8 _)
  have HA0 := Lib.hid A0
  have HA1 := Lib.hid hA1
  have D10 := Lib.hid h.d10
  have h17' : 17 ≤ (w.alloc (.cells #[.slice (some ⟨mb, mo, none⟩) ds.length mc, .int .i64 x] 235)).heap.size := by rw [hsz]; omega
  obtain ⟨y, hy⟩ : ∃ y, y = atD ds 0 := ⟨_, rfl⟩
  have hyb : y < 58 := by rw [hy]; exact atD_lt h.d10 _
  have cy : (w.alloc (.cells #[.slice (some ⟨mb, mo, none⟩) ds.length mc, .int .i64 x] 235)).cell? ⟨mb, mo, none⟩ = some (.int .u8 (y : Nat)) := by
    have := hD.cell (j := 0) h0
    rw [Nat.add_zero] at this
    rw [this, hy]; rfl
  have cm := hD.c0
  have cx := hD.c1
  have i0 : (0 : Int) < (ds.length : Int) := by omega
  have HY := Lib.hid hy
  have hnlc : ds.length ≤ mc := hD.nb.le
  clear hA1 A0 hD hz hg hzg hy h
  go_enter Tryz.func197, Tryz.ntmps197
  go_upto_if 16 with fail
  generalize w.alloc (.cells #[.slice (some ⟨mb, mo, none⟩) ds.length mc, .int .i64 x] 235) = w1 at *
  go_upto_if 26 with (refine wpList_app1 (w0 := w1) (z0 := z) (l := pre) (c := y) rfl (.tmp 21) (.tmp 23) rfl rfl rfl HA1.out (by omega) (by omega) h17' ?_; intro r w2 ha; have HA := Lib.hid ha; clear ha)
  have keep2 := keep.out _ _ _ HA.out
  have b0 := keep2.c0
  have b1 := keep2.c1
  have HK2 := Lib.hid keep2
  clear keep2 cy cm cx
  have HApp := HA
  have hpl : (pre ++ [y]).length ≤ 1001 := by simp; omega
  generalize w2 = w3 at *
  go_cut [0] (fun zv wx => Hid (App .u8 256 w1 wx z zv (pre ++ [y] ++ fracTx ds 1 k)))
  case first =>
    by_cases hk0 : k = 0
    · subst hk0
      go_wp2_with fail
      go_meet
      rw [show fracTx ds 1 0 = [] from rfl, List.append_nil]; exact HApp
    · have i1 : (0 : Int) < k := by omega
      have tb : decide (0 < k) = true := decide_eq_true (by omega)
      have hF : fracTx ds 1 k = 46 :: (List.range k).map fun i => atD ds (1 + (i : Nat)) := by unfold fracTx; rw [if_pos (by omega)]
      have HF := Lib.hid hF
      obtain ⟨m, hm⟩ : ∃ m, m = min ds.length (k + 1) := ⟨_, rfl⟩
      have em : min (ds.length : Int) ((k : Int) + 1) = (m : Int) := by omega
      have hm0 : 0 < m := by omega
      have hml : m ≤ ds.length := by omega
      have hmk : m ≤ k + 1 := by omega
      have HM := Lib.hid (show m < k + 1 → ds.length ≤ m by omega)
      clear hF hm hk0
      go_upto_if 38 with (refine wpList_app1 (w0 := w1) (z0 := z) (l := pre ++ [y]) (c := 46) rfl (.tmp 27) (.tmp 28) rfl rfl rfl HApp.out (by omega) (by omega) h17' ?_; intro r w4 ha; have HA4 := Lib.hid ha; have hd4 := keep.out _ _ _ ha; have e0 := hd4.c0; have e1 := hd4.c1; have HD4 := Lib.hid hd4; clear ha hd4)
      have hpl2 : (pre ++ [y] ++ [46]).length ≤ 1002 := by simp; omega
      generalize w4 = w5 at *
      go_cut [0, 10] (fun zv iv wx => ∃ j : Nat, iv = .int .i64 ((j + 1 : Nat) : Int) ∧ Hid (App .u8 256 w1 wx z zv (pre ++ [y] ++ (46 :: (List.range j).map fun i => atD ds (1 + (i : Nat))))) ∧ j ≤ k ∧ Hid (j < k → ds.length ≤ j + 1))
      case first =>
        by_cases h1m : 1 < m
        · have j1 : (1 : Int) < m := by omega
          have j2 : decide (1 < m) = true := decide_eq_true h1m
          have j3 : (m : Int) ≤ mc := by omega
          have hvs : ∀ v ∈ asc ((ds.take m).drop 1), v < 256 := fun v hv => by
            have h1 : ∀ d ∈ (ds.take m).drop 1, d < 10 := fun d hd => D10.out d (List.mem_of_mem_take (List.mem_of_mem_drop hd))
            exact asc_lt h1 v hv
          have hvl : (asc ((ds.take m).drop 1)).length = m - 1 := by rw [asc_length]; simp; omega
          have hcells : ∀ j (hj : j < (asc ((ds.take m).drop 1)).length), w5.cell? ⟨mb, mo + 1 + j, none⟩ = some (.int .u8 ((asc ((ds.take m).drop 1))[j] : Nat)) := fun j hj => by
            have hj' : j < m - 1 := by rw [hvl] at hj; exact hj
            have := HD4.out.cell (j := 1 + j) (by omega)
            rw [← Nat.add_assoc] at this
            rw [this, asc_get hj, gd_lt (l := (ds.take m).drop 1) (by simp; omega)]
            simp only [List.getElem_drop, List.getElem_take]
            rw [gd_lt (by omega)]
          have hasc : asc ((ds.take m).drop 1) = (List.range (m - 1)).map fun i => atD ds (1 + (i : Nat)) := by
            apply List.ext_getElem
            · rw [hvl]; simp
            · intro j h1 h2
              rw [hvl] at h1
              rw [asc_get (by rw [hvl]; exact h1), gd_lt (by simp; omega)]
              simp only [List.getElem_drop, List.getElem_take, List.getElem_map, List.getElem_range]
              unfold atD
              rw [if_neg (by omega), show ((1 : Int) + (j : Nat)).toNat = 1 + j by omega, gd_lt (by omega)]
          have HV := Lib.hid (And.intro hvs (And.intro hvl (And.intro hcells hasc)))
          clear hvs hvl hcells hasc
          go_wp2_with (refine wpList_appS (w0 := w1) (z0 := z) (l := pre ++ [y] ++ [46]) (vs := asc ((ds.take m).drop 1)) (mb := mb) (mo := mo + 1) (n := m - 1) (mc := mc - 1) rfl (.tmp 39) (.tmp 44) rfl rfl ?_ HV.out.2.1.symm HA4.out HV.out.1 HV.out.2.2.1 ?_ ?_ h17' ?_; rfl; (rw [HV.out.2.1]; omega); (rw [HV.out.2.1]; omega); intro r6 w6 ha; have HA6 := Lib.hid ha; clear ha)
          go_meet
          refine ⟨m - 1, by rw [show m - 1 + 1 = m by omega], Lib.hid ?_, by omega, Lib.hid (fun hj => by have := HM.out (by omega); omega)⟩
          have h6 := HA6.out
          rw [HV.out.2.2.2] at h6
          simpa using h6
        · have j1 : ¬ (1 : Int) < m := by omega
          have j2 : decide (1 < m) = false := decide_eq_false h1m
          go_wp2_with fail
          go_meet
          refine ⟨0, rfl, Lib.hid ?_, by omega, Lib.hid (fun hj => by have := HM.out (by omega); omega)⟩
          simpa using HA4.out
      case rest =>
        obtain ⟨j0, rfl, q1, q2, q3⟩ := hcut
        have hpl3 : (pre ++ [y]).length ≤ 1001 := by simp; omega
        clear HD4 e0 e1 HA4
        generalize wc = wb at *
        go_wp2_with fail
        go_loopg [0, 10] k (fun gk zv iv wr => ∃ j : Nat, iv = .int .i64 ((j + 1 : Nat) : Int) ∧ Hid (App .u8 256 w1 wr z zv (pre ++ [y] ++ (46 :: (List.range j).map fun i => atD ds (1 + (i : Nat))))) ∧ j ≤ k ∧ Hid (j < k → ds.length ≤ j + 1) ∧ Hid (k - j ≤ gk))
        case atStart => exact ⟨j0, rfl, q1, q2, q3, Lib.hid (Nat.sub_le _ _)⟩
        case round =>
          clear q1 q2 q3
          obtain ⟨j, rfl, p1, p2, p3, p4⟩ := hrel
          by_cases hlt : j < k
          · have l1 : ((j + 1 : Nat) : Int) ≤ k := by omega
            have hat : atD ds (1 + ((j : Nat) : Int)) = 48 := by
              unfold atD
              rw [if_neg (by omega), show ((1 : Int) + (j : Nat)).toNat = j + 1 by omega, gd_ge (p3.out hlt)]
            have HAT := Lib.hid hat
            obtain ⟨g1, hg1⟩ : ∃ g1, gk = g1 + 1 := ⟨gk - 1, by have := p4.out; omega⟩
            have HG := Lib.hid (show k - (j + 1) ≤ g1 by have := p4.out; omega)
            subst hg1
            clear hat
            go_wp2_with (refine wpList_app1 (w0 := w1) (z0 := z) (c := 48) rfl (.tmp 52) (.tmp 53) rfl rfl rfl p1.out (by omega) ?_ h17' ?_; (simp; omega); intro r w3 ha; have HA9 := Lib.hid ha; clear ha)
            go_roundg g1
            case measure => omega
            case rel => exact ⟨j + 1, by go_num, Lib.hid (by rw [range_snoc, HAT.out]; have := HA9.out; rwa [List.append_assoc, List.cons_append] at this), by omega, Lib.hid (fun _ => by have := p3.out hlt; omega), HG⟩
          · obtain rfl : j = k := by omega
            have l1 : ¬ ((j + 1 : Nat) : Int) ≤ (j : Int) := by omega
            go_wp2_with fail
            go_meet
            rw [HF.out]; exact p1
  case rest =>
    have hd := keep.out _ _ _ hcut.out
    generalize wc = wa at *
    have g0 := hd.c0
    have g1 := hd.c1
    obtain ⟨q, hq⟩ : ∃ q, q = pre ++ [y] ++ fracTx ds 1 k := ⟨_, rfl⟩
    have hql : q.length ≤ 200000 := by
      rw [hq, List.length_append]
      unfold fracTx
      split <;> simp <;> omega
    have HQ : Hid (App .u8 256 w1 wa z u0 q) := by rw [hq]; exact hcut
    have HQq := Lib.hid hq
    obtain ⟨E, hE⟩ : ∃ E : Int, E = x - 1 := ⟨_, rfl⟩
    have ex : x - 1 = E := hE.symm
    obtain ⟨n, hn⟩ : ∃ n, n = E.natAbs := ⟨_, rfl⟩
    have hE1 : -902 < E := by omega
    have hE2 : E < 902 := by omega
    have HEx := Lib.hid ex
    have HEn := Lib.hid hn
    have hcase : (E < 0 ∧ E = -(n : Int)) ∨ (0 ≤ E ∧ E = (n : Int)) := by omega
    clear hq hE hn hcut HApp HA HK2 b0 b1 hd hpl
    have hn1 : n < 903 := by omega
    rcases hcase with ⟨hc1, hc2⟩ | ⟨hc1, hc2⟩ <;> by_cases hs : n < 10
    · have f1 : E < 0 := by omega
      have f2 : decide (E < 0) = true := decide_eq_true f1
      have f3 : -E = (n : Int) := by omega
      have f4 : (n : Int) < 10 := by omega
      have f5 : decide (n < 10) = true := decide_eq_true (by omega)
      have HE := Lib.hid (show expTx (x - 1) = 45 :: ((if n < 10 then [48] else []) ++ numTx n) by rw [HEx.out]; unfold expTx; rw [← HEn.out, if_pos f1])
      have hn10 : n < 1000 := by omega
      clear hc1 hc2 hs
      go_wp2_with (first
      | (refine wpList_app1 (w0 := w1) (z0 := z) (l := q) (c := 101) rfl (.tmp 55) (.tmp 57) rfl rfl rfl HQ.out (by omega) (by omega) h17' ?_; intro r5 w5 ha; have HA5 := Lib.hid ha; have hd5 := keep.out _ _ _ ha; have e0 := hd5.c0; have e1 := hd5.c1; clear ha hd5)
      | (refine wpList_app1 (w0 := w1) (z0 := z) (l := q ++ [101]) (c := 45) rfl (.tmp 70) (.tmp 72) rfl rfl rfl HA5.out (by omega) (by simp; omega) h17' ?_; intro r6 w6 ha; have HA6 := Lib.hid ha; clear ha)
      | (refine wpList_app1 (w0 := w1) (z0 := z) (l := q ++ [101] ++ [45]) (c := 48) rfl (.tmp 76) (.tmp 77) rfl rfl rfl HA6.out (by omega) (by simp; omega) h17' ?_; intro r7 w7 ha; have HA7 := Lib.hid ha; clear ha))
      refine (sc_AppendInt r7 (q ++ [101] ++ [45] ++ [48]) n w7 HA7.out.ls hn10 (by simp; omega) (HGl.out _ _ _ HA7.out)).mono ?_
      rintro e w8 ⟨r8, rfl, ha⟩
      have HA8 := Lib.hid (HA7.out.trans ha)
      clear ha
      go_wp2_with fail
      go_ret
      refine ⟨_, rfl, HA0.out.trans ?_⟩
      have h8 := HA8.out
      rw [show pre ++ eTx ds x k = q ++ [101] ++ [45] ++ [48] ++ numTx n by rw [HQq.out]; unfold eTx; rw [HE.out, ← HY.out, if_pos (by omega)]; simp]
      exact h8
    · have f1 : E < 0 := by omega
      have f2 : decide (E < 0) = true := decide_eq_true f1
      have f3 : -E = (n : Int) := by omega
      have f4 : ¬ (n : Int) < 10 := by omega
      have f5 : decide (n < 10) = false := decide_eq_false (by omega)
      have HE := Lib.hid (show expTx (x - 1) = 45 :: ((if n < 10 then [48] else []) ++ numTx n) by rw [HEx.out]; unfold expTx; rw [← HEn.out, if_pos f1])
      have hn10 : n < 1000 := by omega
      clear hc1 hc2 hs
      go_wp2_with (first
      | (refine wpList_app1 (w0 := w1) (z0 := z) (l := q) (c := 101) rfl (.tmp 55) (.tmp 57) rfl rfl rfl HQ.out (by omega) (by omega) h17' ?_; intro r5 w5 ha; have HA5 := Lib.hid ha; have hd5 := keep.out _ _ _ ha; have e0 := hd5.c0; have e1 := hd5.c1; clear ha hd5)
      | (refine wpList_app1 (w0 := w1) (z0 := z) (l := q ++ [101]) (c := 45) rfl (.tmp 70) (.tmp 72) rfl rfl rfl HA5.out (by omega) (by simp; omega) h17' ?_; intro r6 w6 ha; have HA6 := Lib.hid ha; clear ha))
      refine (sc_AppendInt r6 (q ++ [101] ++ [45]) n w6 HA6.out.ls hn10 (by simp; omega) (HGl.out _ _ _ HA6.out)).mono ?_
      rintro e w8 ⟨r8, rfl, ha⟩
      have HA8 := Lib.hid (HA6.out.trans ha)
      clear ha
      go_wp2_with fail
      go_ret
      refine ⟨_, rfl, HA0.out.trans ?_⟩
      have h8 := HA8.out
      rw [show pre ++ eTx ds x k = q ++ [101] ++ [45] ++ numTx n by rw [HQq.out]; unfold eTx; rw [HE.out, ← HY.out, if_neg (by omega)]; simp]
      exact h8
    · have f1 : ¬ E < 0 := by omega
      have f2 : decide (E < 0) = false := decide_eq_false f1
      obtain rfl : E = (n : Int) := by omega
      have f4 : (n : Int) < 10 := by omega
      have f5 : decide (n < 10) = true := decide_eq_true (by omega)
      have HE := Lib.hid (show expTx (x - 1) = 43 :: ((if n < 10 then [48] else []) ++ numTx n) by rw [HEx.out]; unfold expTx; rw [← HEn.out, if_neg f1])
      have hn10 : n < 1000 := by omega
      clear hc1 hc2 hs
      go_wp2_with (first
      | (refine wpList_app1 (w0 := w1) (z0 := z) (l := q) (c := 101) rfl (.tmp 55) (.tmp 57) rfl rfl rfl HQ.out (by omega) (by omega) h17' ?_; intro r5 w5 ha; have HA5 := Lib.hid ha; have hd5 := keep.out _ _ _ ha; have e0 := hd5.c0; have e1 := hd5.c1; clear ha hd5)
      | (refine wpList_app1 (w0 := w1) (z0 := z) (l := q ++ [101]) (c := 43) rfl (.tmp 70) (.tmp 72) rfl rfl rfl HA5.out (by omega) (by simp; omega) h17' ?_; intro r6 w6 ha; have HA6 := Lib.hid ha; clear ha)
      | (refine wpList_app1 (w0 := w1) (z0 := z) (l := q ++ [101] ++ [43]) (c := 48) rfl (.tmp 76) (.tmp 77) rfl rfl rfl HA6.out (by omega) (by simp; omega) h17' ?_; intro r7 w7 ha; have HA7 := Lib.hid ha; clear ha))
      refine (sc_AppendInt r7 (q ++ [101] ++ [43] ++ [48]) n w7 HA7.out.ls hn10 (by simp; omega) (HGl.out _ _ _ HA7.out)).mono ?_
      rintro e w8 ⟨r8, rfl, ha⟩
      have HA8 := Lib.hid (HA7.out.trans ha)
      clear ha
      go_wp2_with fail
      go_ret
      refine ⟨_, rfl, HA0.out.trans ?_⟩
      have h8 := HA8.out
      rw [show pre ++ eTx ds x k = q ++ [101] ++ [43] ++ [48] ++ numTx n by rw [HQq.out]; unfold eTx; rw [HE.out, ← HY.out, if_pos (by omega)]; simp]
      exact h8
    · have f1 : ¬ E < 0 := by omega
      have f2 : decide (E < 0) = false := decide_eq_false f1
      obtain rfl : E = (n : Int) := by omega
      have f4 : ¬ (n : Int) < 10 := by omega
      have f5 : decide (n < 10) = false := decide_eq_false (by omega)
      have HE := Lib.hid (show expTx (x - 1) = 43 :: ((if n < 10 then [48] else []) ++ numTx n) by rw [HEx.out]; unfold expTx; rw [← HEn.out, if_neg f1])
      have hn10 : n < 1000 := by omega
      clear hc1 hc2 hs
      go_wp2_with (first
      | (refine wpList_app1 (w0 := w1) (z0 := z) (l := q) (c := 101) rfl (.tmp 55) (.tmp 57) rfl rfl rfl HQ.out (by omega) (by omega) h17' ?_; intro r5 w5 ha; have HA5 := Lib.hid ha; have hd5 := keep.out _ _ _ ha; have e0 := hd5.c0; have e1 := hd5.c1; clear ha hd5)
      | (refine wpList_app1 (w0 := w1) (z0 := z) (l := q ++ [101]) (c := 43) rfl (.tmp 70) (.tmp 72) rfl rfl rfl HA5.out (by omega) (by simp; omega) h17' ?_; intro r6 w6 ha; have HA6 := Lib.hid ha; clear ha))
      refine (sc_AppendInt r6 (q ++ [101] ++ [43]) n w6 HA6.out.ls hn10 (by simp; omega) (HGl.out _ _ _ HA6.out)).mono ?_
      rintro e w8 ⟨r8, rfl, ha⟩
      have HA8 := Lib.hid (HA6.out.trans ha)
      clear ha
      go_wp2_with fail
      go_ret
      refine ⟨_, rfl, HA0.out.trans ?_⟩
      have h8 := HA8.out
      rw [show pre ++ eTx ds x k = q ++ [101] ++ [43] ++ numTx n by rw [HQq.out]; unfold eTx; rw [HE.out, ← HY.out, if_neg (by omega)]; simp]
      exact h8
end Go.Proofs.YtacfhndledcmgaaGreatDoor
