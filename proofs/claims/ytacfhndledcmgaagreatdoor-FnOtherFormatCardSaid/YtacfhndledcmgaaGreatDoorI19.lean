/- Lemmas for the law FnOtherFormat: the law laws.FnOtherFormat itself. Conditions: those in each theorem; none besides. -/
import Derived.Test.YtacfhndledcmgaaGreatDoorI18
import Derived.Deep.RegionHeld3
set_option linter.unusedVariables false
set_option linter.unusedSimpArgs false
namespace Go.Proofs.YtacfhndledcmgaaGreatDoor
open Go.RowKit
/-- What laws.number says. -/
def NumOut (P : Nat) (M F E : Int) (l : List Nat) (w : World) (e : Ending) (w' : World) : Prop := ∃ b, e = .returned (.bool b) ∧ (b = true → F = 0 ∨ (F = 1 ∧ RealOk 300 1000 P M E l)) ∧ Chg No w w'
set_option maxRecDepth 100000 in
set_option maxHeartbeats 2000000 in
theorem laws_number (P : Nat) (M F : Int) (n : Bool) (A : Option Addr) (c : Nat) (l : List Nat) (E : Int) (w : World) (hP : P < 18446744073709551616) (hr : RdU w A l) (hm : ∀ x ∈ l, x < WB) (hc : l.length ≤ c) :
    Calls Tryz.prog 25 #[.agg #[.int .u64 P, .int .i64 M, .int .i64 F, .bool n, .slice A l.length c, .int .i64 E]] w (NumOut P M F E l w) := by
  have k0 := (Chg.refl No w).alloc (.cells #[.int .u64 P, .int .i64 M, .int .i64 F, .bool n, .slice A l.length c, .int .i64 E] 43)
  have K0 := Lib.hid k0
  by_cases h2 : F = 2
  · have t2 : (F == 2) = true := by rw [h2]; rfl
    have t2b : (F != 2) = false := by simp [bne, t2]
    clear hP hr hm hc h2 k0
    go_enter Tryz.func25, Tryz.ntmps25
    go_wp2_with fail
    go_ret
    exact ⟨false, rfl, (fun h => by cases h), K0.out⟩
  · have t2 : (F == 2) = false := beq_eq_false_iff_ne.2 h2
    have t2b : (F != 2) = true := by simp [bne, t2]
    have key : Calls Tryz.prog 19 #[.agg #[.int .u64 P, .int .i64 M, .int .i64 F, .bool n, .slice A l.length c, .int .i64 E], .int .u64 300, .int .i64 1000] (w.alloc (.cells #[.int .u64 P, .int .i64 M, .int .i64 F, .bool n, .slice A l.length c, .int .i64 E] 43)) (NumOut P M F E l (w.alloc (.cells #[.int .u64 P, .int .i64 M, .int .i64 F, .bool n, .slice A l.length c, .int .i64 E] 43))) := by
      by_cases h0 : F = 0
      · refine (laws_real 300 1000 P M F n A c l E _ hP (by decide) (by decide) (hr.chg k0) hm hc).mono ?_
        rintro e w' ⟨b, h1, -, h3⟩
        exact ⟨b, h1, fun _ => .inl h0, h3⟩
      · by_cases h1 : F = 1
        · refine (laws_real 300 1000 P M F n A c l E _ hP (by decide) (by decide) (hr.chg k0) hm hc).mono ?_
          rintro e w' ⟨b, g1, g2, g3⟩
          exact ⟨b, g1, fun hb => .inr ⟨h1, g2 hb h1⟩, g3⟩
        · refine (laws_real_odd 300 1000 P M F n A l.length c E _ hP (by decide) h0 h1 h2).mono ?_
          rintro e w' ⟨rfl, g3⟩
          exact ⟨false, rfl, (fun h => by cases h), g3⟩
    have HK := Lib.hid key
    clear hP hr hm hc h2 k0 key
    go_enter Tryz.func25, Tryz.ntmps25
    go_wp2_with fail
    refine HK.out.mono ?_
    rintro e w1 ⟨b, rfl, hb, hk⟩
    have HB := Lib.hid hb
    have K1 := Lib.hid (K0.out.then hk (fun _ _ _ f => f))
    clear hb hk
    cases b
    · go_wp2_with fail
      go_ret
      exact ⟨false, rfl, (fun h => by cases h), K1.out⟩
    · go_wp2_with fail
      go_ret
      exact ⟨true, rfl, (fun _ => HB.out (by first | rfl | trivial)), K1.out⟩
theorem conv_one2 (W W' : World) (m : Nat) (hm : m < 256) (h : Chg No (W.alloc (.cells #[.int .u8 (m : Nat)] 5)) W') : (convert 56 9 (.slice (some ⟨W.heap.size, 0, none⟩) 1 1)).run Tryz.prog W' = .ok (.string (txt [m])) W' := by
  have h1 : (W.alloc (.cells #[.int .u8 (m : Nat)] 5)).cell? ⟨W.heap.size, 0, none⟩ = some (.int .u8 (m : Nat)) := World.cell?_alloc_new _ _ _ _
  have h2 : W'.cell? ⟨W.heap.size, 0, none⟩ = some (.int .u8 (m : Nat)) := by
    rw [h.cell _ _ (by show _ < (W.heap.push _).size; simp) (fun f => f)]; exact h1
  refine run_convert_bytes_back (P := Tryz.prog) _ 56 9 5 ⟨W.heap.size, 0, none⟩ 1 ([m].map UInt8.ofNat) Tryz.underlying56 Tryz.underlying5 Tryz.underlying9 (fun j hj => ?_)
  obtain rfl : j = 0 := by simpa using hj
  rw [add0, h2]
  have e2 : (UInt8.ofNat m).toNat = m := by simp [UInt8.toNat_ofNat']; omega
  simp [e2]
theorem cat_pc (ch : Nat) : ({ data := #[37] } : ByteArray) ++ txt [ch] = txt [37, ch] := by
  show txt [37] ++ txt [ch] = _
  rw [txt_append]; rfl
set_option maxRecDepth 100000 in
set_option maxHeartbeats 4000000 in
theorem law_FnOtherFormat (P : Nat) (M F : Int) (n : Bool) (A : Option Addr) (c : Nat) (l : List Nat) (E : Int) (k : Nat) (w : World) (hP : P < 18446744073709551616) (hr : RdU w A l) (hm : ∀ x ∈ l, x < WB) (hc : l.length ≤ c) (hk : k < 256) (hg : Glob w) :
    Calls Tryz.prog 5 #[.agg #[.int .u64 P, .int .i64 M, .int .i64 F, .bool n, .slice A l.length c, .int .i64 E], .int .u8 k] w fun e w' => e = .returned (.bool true) ∧ Chg No w w' := by
  obtain ⟨nl, hnl⟩ : ∃ nl, nl = l.length := ⟨_, rfl⟩
  have HZ := Lib.hid (fun W => zzFits1_any P M F n A nl c E W)
  have HNu : Hid (∀ W, Chg No w W → Calls Tryz.prog 25 #[.agg #[.int .u64 P, .int .i64 M, .int .i64 F, .bool n, .slice A nl c, .int .i64 E]] W (NumOut P M F E l W)) :=
    Lib.hid fun W hW => by have := laws_number P M F n A c l E W hP (hr.chg hW) hm hc; rw [← hnl] at this; exact this
  have HTx : Hid (∀ ch : Nat, OtherCh ch → ∀ W, Chg No w W → RealOk 300 1000 P M E l → Calls Tryz.prog 24 #[.agg #[.int .u64 P, .int .i64 M, .int .i64 1, .bool n, .slice A nl c, .int .i64 E], .int .u8 ch, .int .i64 3] W fun e w' => e = .returned (.string (txt [37, ch])) ∧ Chg No W w') :=
    Lib.hid fun ch hch W hW ho => by
      obtain ⟨m, rfl⟩ : ∃ m : Nat, M = (m : Int) := ⟨M.toNat, by have := ho.2.2.1; omega⟩
      have := text_o ch hch P m n A c l E W (hr.chg hW) hm (hg.no hW) ho
      rw [← hnl] at this
      refine this.mono ?_
      rintro e w' ⟨t, rfl, h1, h2⟩
      exact ⟨h1, h2⟩
  have K0 := Lib.hid ((Chg.refl No w).alloc (.cells #[.int .u64 P, .int .i64 M, .int .i64 F, .bool n, .slice A nl c, .int .i64 E] 43))
  have R0 : Hid (RealAt (w.alloc (.cells #[.int .u64 P, .int .i64 M, .int .i64 F, .bool n, .slice A nl c, .int .i64 E] 43)) w.heap.size P M F n A nl c E) :=
    Lib.hid ⟨World.cell?_alloc_new _ _ _ _, World.cell?_alloc_new _ _ _ _, World.cell?_alloc_new _ _ _ _, World.cell?_alloc_new _ _ _ _, World.cell?_alloc_new _ _ _ _, World.cell?_alloc_new _ _ _ _⟩
  rw [← hnl]
  clear hr hm hc hg hnl hP
  go_enter Tryz.func5, Tryz.ntmps5
  go_wp2_with fail
  refine (HZ.out _).mono ?_
  rintro e w1 ⟨b1, rfl, hk1⟩
  have K1 := Lib.hid (K0.out.then hk1 (fun _ _ _ f => f))
  have R1 := Lib.hid (R0.out.chg hk1)
  clear hk1
  cases b1
  · go_wp2_with fail
    go_ret
    exact ⟨rfl, K1.out⟩
  obtain ⟨c0, c1, c2, c3, c4, c5⟩ := R1.out
  go_wp2_with fail
  refine (HNu.out _ K1.out).mono ?_
  rintro e w2 ⟨b2, rfl, hok, hk2⟩
  have K2 := Lib.hid (K1.out.then hk2 (fun _ _ _ f => f))
  have R2 := Lib.hid (R1.out.chg hk2)
  clear hk2 c0 c1 c2 c3 c4 c5
  obtain ⟨c0, c1, c2, c3, c4, c5⟩ := R2.out
  cases b2
  · go_wp2_with fail
    go_ret
    exact ⟨rfl, K2.out⟩
  by_cases hF0 : F = 0
  · have tF : (F == 0) = true := by rw [hF0]; rfl
    clear hok hF0
    go_wp2_with fail
    go_ret
    exact ⟨rfl, K2.out⟩
  · have tF : (F == 0) = false := beq_eq_false_iff_ne.2 hF0
    obtain ⟨rfl, hok2⟩ := (hok rfl).resolve_left hF0
    have HOK := Lib.hid hok2
    clear hok hok2 hF0
    obtain ⟨kk, hkk⟩ : ∃ kk, kk = k % 19 := ⟨_, rfl⟩
    have e1 : (k : Int) % 19 = (kk : Int) := by omega
    have hk18 : kk ≤ 18 := by omega
    clear hkk
    go_upto_region 5 with fail
    go_cut [5] (fun v wx => ∃ ch : Nat, v = .int .u8 ch ∧ Hid (OtherCh ch) ∧ w2 = wx)
    case first =>
      have h19 : kk = 0 ∨ kk = 1 ∨ kk = 2 ∨ kk = 3 ∨ kk = 4 ∨ kk = 5 ∨ kk = 6 ∨ kk = 7 ∨ kk = 8 ∨ kk = 9 ∨ kk = 10 ∨ kk = 11 ∨ kk = 12 ∨ kk = 13 ∨ kk = 14 ∨ kk = 15 ∨ kk = 16 ∨ kk = 17 ∨ kk = 18 := by omega
      clear hk18
      rcases h19 with rfl | rfl | rfl | rfl | rfl | rfl | rfl | rfl | rfl | rfl | rfl | rfl | rfl | rfl | rfl | rfl | rfl | rfl | rfl
      · go_wp2_with fail
        go_meet
        exact ⟨97, rfl, Lib.hid (by unfold OtherCh; decide), rfl⟩
      · go_wp2_with fail
        go_meet
        exact ⟨99, rfl, Lib.hid (by unfold OtherCh; decide), rfl⟩
      · go_wp2_with fail
        go_meet
        exact ⟨105, rfl, Lib.hid (by unfold OtherCh; decide), rfl⟩
      · go_wp2_with fail
        go_meet
        exact ⟨107, rfl, Lib.hid (by unfold OtherCh; decide), rfl⟩
      · go_wp2_with fail
        go_meet
        exact ⟨110, rfl, Lib.hid (by unfold OtherCh; decide), rfl⟩
      · go_wp2_with fail
        go_meet
        exact ⟨113, rfl, Lib.hid (by unfold OtherCh; decide), rfl⟩
      · go_wp2_with fail
        go_meet
        exact ⟨116, rfl, Lib.hid (by unfold OtherCh; decide), rfl⟩
      · go_wp2_with fail
        go_meet
        exact ⟨121, rfl, Lib.hid (by unfold OtherCh; decide), rfl⟩
      · go_wp2_with fail
        go_meet
        exact ⟨122, rfl, Lib.hid (by unfold OtherCh; decide), rfl⟩
      · go_wp2_with fail
        go_meet
        exact ⟨65, rfl, Lib.hid (by unfold OtherCh; decide), rfl⟩
      · go_wp2_with fail
        go_meet
        exact ⟨67, rfl, Lib.hid (by unfold OtherCh; decide), rfl⟩
      · go_wp2_with fail
        go_meet
        exact ⟨68, rfl, Lib.hid (by unfold OtherCh; decide), rfl⟩
      · go_wp2_with fail
        go_meet
        exact ⟨75, rfl, Lib.hid (by unfold OtherCh; decide), rfl⟩
      · go_wp2_with fail
        go_meet
        exact ⟨77, rfl, Lib.hid (by unfold OtherCh; decide), rfl⟩
      · go_wp2_with fail
        go_meet
        exact ⟨78, rfl, Lib.hid (by unfold OtherCh; decide), rfl⟩
      · go_wp2_with fail
        go_meet
        exact ⟨81, rfl, Lib.hid (by unfold OtherCh; decide), rfl⟩
      · go_wp2_with fail
        go_meet
        exact ⟨84, rfl, Lib.hid (by unfold OtherCh; decide), rfl⟩
      · go_wp2_with fail
        go_meet
        exact ⟨89, rfl, Lib.hid (by unfold OtherCh; decide), rfl⟩
      · go_wp2_with fail
        go_meet
        exact ⟨90, rfl, Lib.hid (by unfold OtherCh; decide), rfl⟩
    case rest =>
      obtain ⟨ch, rfl, HCH, hw2⟩ := hcut
      subst hw2
      have hch : ch < 256 := HCH.out.1
      have HKP : Hid (∀ W, Chg No w2 W → W.cell? ⟨w.heap.size, 0, none⟩ = some (.int .u64 P) ∧ W.cell? ⟨w.heap.size, 1, none⟩ = some (.int .i64 M) ∧ W.cell? ⟨w.heap.size, 2, none⟩ = some (.int .i64 1) ∧ W.cell? ⟨w.heap.size, 3, none⟩ = some (.bool n) ∧ W.cell? ⟨w.heap.size, 4, none⟩ = some (.slice A nl c) ∧ W.cell? ⟨w.heap.size, 5, none⟩ = some (.int .i64 E) ∧ Chg No w2 W) :=
        Lib.hid fun W hW => by
          obtain ⟨g0, g1, g2, g3, g4, g5⟩ := R2.out.chg hW
          exact ⟨g0, g1, g2, g3, g4, g5, hW⟩
      have hT : ((txt [37, ch]).toList == (({ data := #[37] } : ByteArray) ++ txt [ch]).toList) = true := by rw [cat_pc]; exact beq_self_eq_true _
      have HCV : Hid (∀ W : World, (convert 56 9 (.slice (some ⟨W.heap.size, 0, none⟩) 1 1)).run Tryz.prog (W.alloc (.cells #[.int .u8 (ch : Nat)] 5)) = .ok (.string (txt [ch])) (W.alloc (.cells #[.int .u8 (ch : Nat)] 5))) := Lib.hid fun W => conv_one W ch hch
      have HCV2 : Hid (∀ (s : Nat) (W W' : World), s = W.heap.size → Chg No (W.alloc (.cells #[.int .u8 (ch : Nat)] 5)) W' → (convert 56 9 (.slice (some ⟨s, 0, none⟩) 1 1)).run Tryz.prog W' = .ok (.string (txt [ch])) W') := Lib.hid fun s W W' hs hW' => by
        rw [hs]; exact conv_one2 W W' ch hch hW'
      go_wp2_with fail
      have KA : Hid (Chg No w2 (w2.alloc (.cells #[.int .u8 (ch : Nat)] 5)).drew) := Lib.hid (((Chg.refl No w2).alloc _).drew)
      have KD : Hid (Chg No w2 w2.drew) := Lib.hid (Chg.refl No w2).drew
      obtain ⟨d0, d1, d2, d3, d4, d5, -⟩ := HKP.out _ KA.out
      obtain ⟨f0, f1, f2, f3, f4, f5, -⟩ := HKP.out _ KD.out
      go_region_with (first
        | (go_at_call 24; first
            | (with_reducible refine (HTx.out ch HCH.out w2.drew (K2.out.then KD.out (fun _ _ _ f => f)) HOK.out).mono ?_; rintro e w6 ⟨rfl, hk6⟩; have K6 := Lib.hid (KD.out.then hk6 (fun _ _ _ f => f)))
            | (with_reducible refine (HTx.out ch HCH.out (w2.alloc (.cells #[.int .u8 (ch : Nat)] 5)).drew (K2.out.then KA.out (fun _ _ _ f => f)) HOK.out).mono ?_; rintro e w6 ⟨rfl, hk6⟩; have K6 := Lib.hid (KA.out.then hk6 (fun _ _ _ f => f))))
        | rw [HCV.out _] | rw [HCV2.out w2.heap.size w2 _ rfl (Chg.refl No (w2.alloc (.cells #[.int .u8 (ch : Nat)] 5))).drew] | rw [HCV2.out w2.heap.size w2 _ rfl ((Chg.refl No (w2.alloc (.cells #[.int .u8 (ch : Nat)] 5))).drew.then hk6 (fun _ _ _ f => f))])
      all_goals
        go_wp2_with fail
        go_ret
        first
          | exact ⟨rfl, K2.out.then K6.out (fun _ _ _ f => f)⟩
          | exact ⟨rfl, K2.out.then (K6.out.alloc _) (fun _ _ _ f => f)⟩
          | exact ⟨rfl, K2.out.then (K6.out.drew) (fun _ _ _ f => f)⟩
end Go.Proofs.YtacfhndledcmgaaGreatDoor
