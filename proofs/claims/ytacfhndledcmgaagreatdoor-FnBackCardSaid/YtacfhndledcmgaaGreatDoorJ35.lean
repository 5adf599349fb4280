/- Lemmas for the law FnBack: the law laws.FnBack itself. Conditions: those in each theorem; none besides. -/
import Derived.Test.YtacfhndledcmgaaGreatDoorJ34
import Derived.Test.YtacfhndledcmgaaGreatDoorJ25
import Derived.Test.YtacfhndledcmgaaGreatDoorJ20
import Derived.Test.YtacfhndledcmgaaGreatDoorJ17
import Derived.Deep.RegionHeld3
set_option linter.unusedVariables false
set_option linter.unusedSimpArgs false
namespace Go.Proofs.YtacfhndledcmgaaGreatDoor
open Go.RowKit
/-- What Parse tells of a text that reads back. -/
def LPost (P : Nat) (M : Int) (n : Bool) (X : Nat) (E : Int) (W : World) (e : Ending) (w' : World) : Prop :=
  ∃ A2 c2 lz ln F2, ∃ bb : Nat, e = .returned (.tuple #[.agg #[.int .u64 P, .int .i64 M, .int .i64 1, .bool n, .slice A2 ln c2, .int .i64 F2], .int .i64 0, .int .i64 bb, .bool true]) ∧ ln = List.length lz ∧ (∀ m k : Nat, X = m * 2 ^ k → m % 2 = 1 → Vl lz = m ∧ F2 = E + (k : Nat)) ∧ RdU w' A2 lz ∧ List.length lz ≤ c2 ∧ CanW lz ∧ Chg No W w' ∧ (∀ ad, A2 = some ad → 0 < List.length lz → W.heap.size ≤ ad.block)
theorem parse_back (P M : Nat) (n : Bool) (X : Nat) (E : Int) (t : List Nat) (eo : Addr) (W : World) (ht : BackTx n P X E t) (hP0 : 0 < P) (hP2 : P < 2000) (hM : M < 6) (hg : Glob W) (hE : W.cell? ⟨0, 0, none⟩ = some (.iface 245 (.pointer (some eo)))) :
    Calls Tryz.prog 42 #[.string (txt t), .int .i64 0, .int .u64 P, .int .i64 M] W (LPost P M n X E W) := by
  obtain ⟨-, N, F, bb, hR, hN, hNb, hF1, hF2, hS⟩ := ht
  refine (impl_Parse 0 P M n N F bb t W hP0 hP2 hM hN (by omega) (by omega) hNb hg hg.size (fun W2 b h1 h2 h3 h4 => hR M b eo W2 hM (Nat.le_trans hg.size h2) h4 (eof_chg hE h1 (fun f => f)))).mono ?_
  rintro e w' ⟨A, c, l, T, O, rfl, g1, g2, g3, g4, g5, g6, g7, g8⟩
  exact ⟨A, c, l, _, _, _, rfl, rfl, fun m k hX hm => by
    obtain ⟨q1, q2⟩ := hS.odd g1 g2 m k hX hm
    exact ⟨by rw [g6, q1], q2⟩, g3, g4, g5, g7, g8⟩
theorem canw_len {l : List Nat} {X m k T : Nat} (h : CanW l) (hX : X = m * 2 ^ k) (hl : Vl l = m) (hb : X < 2 ^ T) (hT : T ≤ 300) : l.length ≤ 1000000 := by
  rcases Nat.eq_zero_or_pos l.length with h0 | h0
  · omega
  have h1 := h.1 (fun e => by rw [e] at h0; simp at h0)
  have h2 : m ≤ X := by rw [hX]; exact Nat.le_mul_of_pos_right _ (Nat.two_pow_pos _)
  have h3 : WB ^ (l.length - 1) < 2 ^ T := by omega
  rw [WB_two] at h3
  have := (Nat.pow_lt_pow_iff_right (by decide : 1 < 2)).1 h3
  omega
set_option maxRecDepth 100000 in
set_option maxHeartbeats 8000000 in
theorem law_FnBack (P : Nat) (M F : Int) (n : Bool) (A : Option Addr) (c : Nat) (l : List Nat) (E : Int) (k : Nat) (eo : Addr) (w : World) (hP : P < 18446744073709551616) (hr : RdU w A l) (hm : ∀ x ∈ l, x < WB) (hc : l.length ≤ c) (hk : k < 256) (hg : Glob w) (hE0 : w.cell? ⟨0, 0, none⟩ = some (.iface 245 (.pointer (some eo)))) :
    Calls Tryz.prog 8 #[.agg #[.int .u64 P, .int .i64 M, .int .i64 F, .bool n, .slice A l.length c, .int .i64 E], .int .u8 k] w fun e w' => e = .returned (.bool true) ∧ Chg No w w' := by
  obtain ⟨nl, hnl⟩ : ∃ nl, nl = l.length := ⟨_, rfl⟩
  have HZ := Lib.hid (fun W => zzFits1_any P M F n A nl c E W)
  have HNu : Hid (∀ W, Chg No w W → Calls Tryz.prog 25 #[.agg #[.int .u64 P, .int .i64 M, .int .i64 F, .bool n, .slice A nl c, .int .i64 E]] W (NumOut P M F E l W)) :=
    Lib.hid fun W hW => by have := laws_number P M F n A c l E W hP (hr.chg hW) hm hc; rw [← hnl] at this; exact this
  have HTx : Hid (∀ ch : Nat, (ch = 120 ∨ ch = 112 ∨ ch = 98) → ∀ W, Chg No w W → RealOk 300 1000 P M E l → Calls Tryz.prog 24 #[.agg #[.int .u64 P, .int .i64 M, .int .i64 1, .bool n, .slice A nl c, .int .i64 E], .int .u8 ch, .int .i64 (-1)] W (TextOut (BackTx n P (Vl l) E) W)) :=
    Lib.hid fun ch hch W hW ho => by
      obtain ⟨m, rfl⟩ : ∃ m : Nat, M = (m : Int) := ⟨M.toNat, by have := ho.2.2.1; omega⟩
      have := text_back ch P m n A c l E W hch (hr.chg hW) hm (hg.no hW) ho
      rw [← hnl] at this
      exact this
  have HPa : Hid (∀ t W, BackTx n P (Vl l) E t → Chg No w W → RealOk 300 1000 P M E l → Calls Tryz.prog 42 #[.string (txt t), .int .i64 0, .int .u64 P, .int .i64 M] W (LPost P M n (Vl l) E W)) :=
    Lib.hid fun t W ht hW ho => by
      obtain ⟨m, rfl⟩ : ∃ m : Nat, M = (m : Int) := ⟨M.toNat, by have := ho.2.2.1; omega⟩
      obtain ⟨o1, o2, o3, o4, o5, o6, o7, o8, o9⟩ := ho
      exact parse_back P m n (Vl l) E t eo W ht (by omega) (by omega) (by omega) (hg.no hW) (eof_chg hE0 hW (fun f => f))
  have HOf : Hid (∀ W, Chg No w W → RealOk 300 1000 P M E l → Calls Tryz.prog 20 #[.agg #[.int .u64 P, .int .i64 M, .int .i64 1, .bool n, .slice A nl c, .int .i64 E]] W fun e w' => ∃ r, e = .returned (.agg #[.bool n, r, .int .i64 E]) ∧ Sn w' r (Vl l) ∧ Chg No W w') :=
    Lib.hid fun W hW ho => by have := spec_OfReal P M n A c l E W (hr.chg hW) (by have := ho.2.2.2.2.1; have := ho.2.1; omega) hm hc; rw [← hnl] at this; exact this
  have HIs : Hid (∀ (A2 : Option Addr) (c2 : Nat) (lz : List Nat) (ln : Nat) (F2 : Int) (v : Value) (W : World), ln = List.length lz → Chg No w W → RealOk 300 1000 P M E l → (∀ m k : Nat, Vl l = m * 2 ^ k → m % 2 = 1 → Vl lz = m ∧ F2 = E + (k : Nat)) → RdU W A2 lz → List.length lz ≤ c2 → CanW lz → Sn W v (Vl l) →
      Calls Tryz.prog 43 #[.agg #[.int .u64 P, .int .i64 M, .int .i64 1, .bool n, .slice A2 ln c2, .int .i64 F2], .int .u64 P, .int .i64 M, .agg #[.bool n, v, .int .i64 E]] W fun e w' => e = .returned (.bool true) ∧ Chg No W w') :=
    Lib.hid fun A2 c2 lz ln F2 v W hln hW ho h1 h2 h3 h4 h5 => by
      obtain ⟨m, rfl⟩ : ∃ m : Nat, M = (m : Int) := ⟨M.toNat, by have := ho.2.2.1; omega⟩
      subst hln
      obtain ⟨o1, o2, o3, o4, o5, o6, o7, o8, o9⟩ := ho
      obtain ⟨T, hT⟩ : ∃ T : Nat, T = 300 := ⟨_, rfl⟩
      have hX : Vl l < 2 ^ T := Nat.lt_of_lt_of_le (blen_spec o6).2.2 (Nat.pow_le_pow_right (by decide) (by omega))
      have hlz : lz.length ≤ 1000000 := by
        obtain ⟨j, m', hj, hm'⟩ := odd_part (Vl l) o6
        have hX2 : Vl l = m' * 2 ^ j := by rw [hj, Nat.mul_comm]
        exact canw_len h4 hX2 (h1 m' j hX2 hm').1 hX (by omega)
      obtain ⟨u, hu⟩ : ∃ u : Nat, u = 19 := ⟨_, rfl⟩
      refine spec_IsReal P m n A2 c2 lz F2 v (Vl l) u E W h5 ?_ (by omega) o6 h2 h3 hlz h4 (Nat.le_trans hg.size hW.size) h1 (by omega) (by omega)
      refine Nat.lt_of_lt_of_le hX ?_
      rw [show (65536 : Nat) = 2 ^ 16 from rfl, ← Nat.pow_mul]
      exact Nat.pow_le_pow_right (by decide) (by omega)
  have K0 := Lib.hid ((Chg.refl No w).alloc (.cells #[.int .u64 P, .int .i64 M, .int .i64 F, .bool n, .slice A nl c, .int .i64 E] 43))
  have R0 : Hid (RealAt (w.alloc (.cells #[.int .u64 P, .int .i64 M, .int .i64 F, .bool n, .slice A nl c, .int .i64 E] 43)) w.heap.size P M F n A nl c E) :=
    Lib.hid ⟨World.cell?_alloc_new _ _ _ _, World.cell?_alloc_new _ _ _ _, World.cell?_alloc_new _ _ _ _, World.cell?_alloc_new _ _ _ _, World.cell?_alloc_new _ _ _ _, World.cell?_alloc_new _ _ _ _⟩
  rw [← hnl]
  have h17 := hg.size
  clear hr hm hc hg hnl hE0
  go_enter Tryz.func8, Tryz.ntmps8
  go_wp2_with fail
  refine (HZ.out _).mono ?_
  rintro e w1 ⟨b1, rfl, hk1⟩
  have K1 := Lib.hid (K0.out.then hk1 (fun _ _ _ f => f))
  have R1 := Lib.hid (R0.out.chg hk1)
  clear hk1
  cases b1
  · go_wp2_with fail
    go_ret
    exact ⟨rfl, K1.out⟩
  obtain ⟨c0, c1, c2, c3, c4, c5⟩ := R1.out
  go_wp2_with fail
  refine (HNu.out _ K1.out).mono ?_
  rintro e w2 ⟨b2, rfl, hok, hk2⟩
  have K2 := Lib.hid (K1.out.then hk2 (fun _ _ _ f => f))
  have R2 := Lib.hid (R1.out.chg hk2)
  clear hk2 c0 c1 c2 c3 c4 c5
  obtain ⟨c0, c1, c2, c3, c4, c5⟩ := R2.out
  cases b2
  · go_wp2_with fail
    go_ret
    exact ⟨rfl, K2.out⟩
  by_cases hF0 : F = 0
  · have tF : (F == 0) = true := by rw [hF0]; rfl
    clear hok hF0
    go_wp2_with fail
    go_ret
    exact ⟨rfl, K2.out⟩
  have tF : (F == 0) = false := beq_eq_false_iff_ne.2 hF0
  obtain ⟨rfl, hok2⟩ := (hok rfl).resolve_left hF0
  have HOK := Lib.hid hok2
  clear hok hok2 hF0
  obtain ⟨kk, hkk⟩ : ∃ kk, kk = k % 3 := ⟨_, rfl⟩
  have e1 : (k : Int).tmod 3 = (kk : Int) := by rw [Int.tmod_eq_emod_of_nonneg (by omega)]; omega
  obtain ⟨ch, hch, hk2⟩ : ∃ ch, (ch = 120 ∨ ch = 112 ∨ ch = 98) ∧ ((kk = 0 ∧ ch = 120) ∨ (kk = 1 ∧ ch = 112) ∨ (kk = 2 ∧ ch = 98)) := by
    rcases (show kk = 0 ∨ kk = 1 ∨ kk = 2 by omega) with h | h | h
    · exact ⟨120, .inl rfl, .inl ⟨h, rfl⟩⟩
    · exact ⟨112, .inr (.inl rfl), .inr (.inl ⟨h, rfl⟩)⟩
    · exact ⟨98, .inr (.inr rfl), .inr (.inr ⟨h, rfl⟩)⟩
  have HT := Lib.hid (HTx.out ch hch)
  clear HTx hch
  clear hkk
  have HKP : Hid (∀ W, Chg No w2 W → W.cell? ⟨w.heap.size, 0, none⟩ = some (.int .u64 P) ∧ W.cell? ⟨w.heap.size, 1, none⟩ = some (.int .i64 M) ∧ W.cell? ⟨w.heap.size, 2, none⟩ = some (.int .i64 1) ∧ W.cell? ⟨w.heap.size, 3, none⟩ = some (.bool n) ∧ W.cell? ⟨w.heap.size, 4, none⟩ = some (.slice A nl c) ∧ W.cell? ⟨w.heap.size, 5, none⟩ = some (.int .i64 E)) :=
    Lib.hid fun W hW => R2.out.chg hW
  have hbl0 : w.heap.size < w2.heap.size := World.block_lt_of_cell? _ _ c0
  go_upto_region 5 with fail
  clear c0 c1 c2 c3 c4 c5
  go_cut [5, 6, 7, 8] (fun (zv av bv kv : Value) (wx : World) => ∃ (fb : Nat) (A2 : Option Addr) (c2 : Nat) (lz : List Nat) (ln : Nat) (F2 : Int) (bb : Nat), zv = .pointer (some ⟨fb, 0, none⟩) ∧ av = .int .i64 0 ∧ bv = .int .i64 bb ∧ kv = .bool true ∧ Hid (ln = List.length lz) ∧ Hid (Bk wx fb #[.int .u64 P, .int .i64 M, .int .i64 1, .bool n, .slice A2 ln c2, .int .i64 F2]) ∧
    Hid ((∀ m k : Nat, Vl l = m * 2 ^ k → m % 2 = 1 → Vl lz = m ∧ F2 = E + (k : Nat)) ∧ List.length lz ≤ c2 ∧ CanW lz) ∧ Hid (RdU wx A2 lz) ∧ Hid (Chg No w2 wx))
  case first =>
    have hPW : P < WB := by have := HOK.out.2.1; have h2 : (300 : Nat) < WB := by decide
                            omega
    rcases hk2 with ⟨rfl, rfl⟩ | ⟨rfl, rfl⟩ | ⟨rfl, rfl⟩
    · simp only [Int.natCast_zero, Int.natCast_one, Int.cast_ofNat_Int] at e1
      go_wp2_with fail
      go_region_held3 (fun W => W.cell? ⟨w.heap.size, 0, none⟩ = some (.int .u64 P) ∧ W.cell? ⟨w.heap.size, 1, none⟩ = some (.int .i64 M) ∧ W.cell? ⟨w.heap.size, 2, none⟩ = some (.int .i64 1) ∧ W.cell? ⟨w.heap.size, 3, none⟩ = some (.bool n) ∧ W.cell? ⟨w.heap.size, 4, none⟩ = some (.slice A nl c) ∧ W.cell? ⟨w.heap.size, 5, none⟩ = some (.int .i64 E)) (first
        | (obtain ⟨q0, q1, q2, q3, q4, q5⟩ := hS7; refine ⟨?_, ?_, ?_, ?_, ?_, ?_⟩ <;> (rw [cell_setCell_ne _ _ _ _ _ _ (.inl (by omega)), cell_setCell_ne _ _ _ _ _ _ (.inl (by omega)), cell_setCell_ne _ _ _ _ _ _ (.inl (by omega)), cell_setCell_ne _ _ _ _ _ _ (.inl (by omega)), cell_setCell_ne _ _ _ _ _ _ (.inl (by omega)), cell_setCell_ne _ _ _ _ _ _ (.inl (by omega))]; assumption))
        | assumption | exact HKP.out _ (Chg.refl No w2).drew | exact HKP.out _ ((Chg.refl No w2).alloc _).drew | exact HKP.out _ ((Chg.refl No w2).alloc _) | exact HKP.out _ (KD6.out.alloc _) | exact HKP.out _ (KD7.out.alloc _)) (first
        | (go_at_call 24
           (show Calls Tryz.prog 24 #[_, .int .u8 ((120 : Nat) : Int), _] _ _)
           (with_reducible refine (HT.out w2.drew (K2.out.drew) HOK.out).mono ?_)
           rintro e6 w6 ⟨t6, ht6, rfl, hk6⟩
           have KD6 := Lib.hid ((Chg.refl No w2).drew.then hk6 (fun _ _ _ f => f))
           have HT6 := Lib.hid ht6
           have hS6 := HKP.out _ KD6.out
           clear hk6 ht6)
        | (go_at_call 24
           (show Calls Tryz.prog 24 #[_, .int .u8 ((120 : Nat) : Int), _] _ _)
           (with_reducible refine (HT.out (w2.alloc _).drew ((K2.out.alloc _).drew) HOK.out).mono ?_)
           rintro e6 w6 ⟨t6, ht6, rfl, hk6⟩
           have KD6 := Lib.hid (((Chg.refl No w2).alloc _).drew.then hk6 (fun _ _ _ f => f))
           have BK6 : Hid (Bk w6 w2.heap.size #[.int .u64 0, .int .i64 0, .int .i64 0, .bool false, .slice none 0 0, .int .i64 0]) := Lib.hid (Bk.chg (S := No) (Bk.new w2 #[.int .u64 0, .int .i64 0, .int .i64 0, .bool false, .slice none 0 0, .int .i64 0] 43) ((Chg.refl No _).drew.then hk6 (fun _ _ _ f => f)) (fun _ f => f))
           have HT6 := Lib.hid ht6
           have hS6 := HKP.out _ KD6.out
           clear hk6 ht6)
        | (go_at_call 42; (with_reducible refine (HPa.out _ w6 HT6.out (K2.out.then KD6.out (fun _ _ _ f => f)) HOK.out).mono ?_)
           rintro e7 w7 ⟨A2, c2, lz, ln, F2, bb, rfl, p1, p2, p3, p4, p5, p6, p7⟩
           have KD7 := Lib.hid (KD6.out.then p6 (fun _ _ _ f => f))
           have HL7 := Lib.hid p1
           have HP7 := Lib.hid (And.intro p2 (And.intro p4 p5))
           have HR7 := Lib.hid p3
           have HN7 := Lib.hid p7
           have hS7 := HKP.out _ KD7.out
           try (have g7 : Bk w7 w2.heap.size #[.int .u64 0, .int .i64 0, .int .i64 0, .bool false, .slice none 0 0, .int .i64 0] := Bk.chg (S := No) BK6.out p6 (fun _ f => f)
                have BK7 := Lib.hid g7
                have b0 : w7.cell? ⟨w2.heap.size, 0, none⟩ = some (.int .u64 0) := g7.cell 0
                have b1 : w7.cell? ⟨w2.heap.size, 1, none⟩ = some (.int .i64 0) := g7.cell 1
                have b2 : w7.cell? ⟨w2.heap.size, 2, none⟩ = some (.int .i64 0) := g7.cell 2
                have b3 : w7.cell? ⟨w2.heap.size, 3, none⟩ = some (.bool false) := g7.cell 3
                have b4 : w7.cell? ⟨w2.heap.size, 4, none⟩ = some (.slice none 0 0) := g7.cell 4
                have b5 : w7.cell? ⟨w2.heap.size, 5, none⟩ = some (.int .i64 0) := g7.cell 5
                have f0 := g7.plain.free 0
                have f1 := g7.plain.free 1
                have f2 := g7.plain.free 2
                have f3 := g7.plain.free 3
                have f4 := g7.plain.free 4
                have f5 := g7.plain.free 5
                clear g7)
           clear p1 p2 p3 p4 p5 p6 p7)
        | (go_at_call 42; (with_reducible refine (HPa.out _ (w6.alloc _) HT6.out (K2.out.then (KD6.out.alloc _) (fun _ _ _ f => f)) HOK.out).mono ?_)
           rintro e7 w7 ⟨A2, c2, lz, ln, F2, bb, rfl, p1, p2, p3, p4, p5, p6, p7⟩
           have KD7 := Lib.hid ((KD6.out.alloc _).then p6 (fun _ _ _ f => f))
           have HL7 := Lib.hid p1
           have HP7 := Lib.hid (And.intro p2 (And.intro p4 p5))
           have HR7 := Lib.hid p3
           have HN7 := Lib.hid p7
           have hS7 := HKP.out _ KD7.out
           have hb66 : w.heap.size < w6.heap.size := World.block_lt_of_cell? _ _ hS6.1
           have g7 : Bk w7 w6.heap.size #[.int .u64 0, .int .i64 0, .int .i64 0, .bool false, .slice none 0 0, .int .i64 0] := Bk.chg (S := No) (Bk.new w6 #[.int .u64 0, .int .i64 0, .int .i64 0, .bool false, .slice none 0 0, .int .i64 0] 43) p6 (fun _ f => f)
           have BK7 := Lib.hid g7
           have b0 : w7.cell? ⟨w6.heap.size, 0, none⟩ = some (.int .u64 0) := g7.cell 0
           have b1 : w7.cell? ⟨w6.heap.size, 1, none⟩ = some (.int .i64 0) := g7.cell 1
           have b2 : w7.cell? ⟨w6.heap.size, 2, none⟩ = some (.int .i64 0) := g7.cell 2
           have b3 : w7.cell? ⟨w6.heap.size, 3, none⟩ = some (.bool false) := g7.cell 3
           have b4 : w7.cell? ⟨w6.heap.size, 4, none⟩ = some (.slice none 0 0) := g7.cell 4
           have b5 : w7.cell? ⟨w6.heap.size, 5, none⟩ = some (.int .i64 0) := g7.cell 5
           have f0 := g7.plain.free 0
           have f1 := g7.plain.free 1
           have f2 := g7.plain.free 2
           have f3 := g7.plain.free 3
           have f4 := g7.plain.free 4
           have f5 := g7.plain.free 5
           clear g7 p1 p2 p3 p4 p5 p6 p7))
      all_goals
        go_wp2_with fail
        go_meet
        first
          | with_reducible exact ⟨_, A2, c2, lz, ln, F2, bb, rfl, rfl, rfl, rfl, HL7, Lib.hid (Bk.new _ _ _), HP7, Lib.hid (HR7.out.chg ((Chg.refl No w7).alloc _)), Lib.hid (KD7.out.alloc _)⟩
          | (have ks := BK7.out.sr6_chg (p := 0) (P := P) (by decide) hPW ⟨by simp, by simp⟩ ⟨by simp, by simp⟩ ⟨by simp, by simp⟩ ⟨by simp, by simp⟩ ⟨by simp, by simp⟩ (.int .i64 M) (.int .i64 1) (.bool n) (.slice A2 ln c2) (.int .i64 F2)
             have hfl := BK7.out.plain.lt
             refine ⟨_, A2, c2, lz, ln, F2, bb, rfl, rfl, rfl, rfl, HL7, Lib.hid (BK7.out.sr6 _ _ _ _ _ _), HP7, Lib.hid (HR7.out.chgB ks (fun ad e0 h0 o h => ?_)), Lib.hid (KD7.out.then ks (fun y o hy f => ?_))⟩
             · have h4 := HN7.out ad e0 h0
               first
                 | (have h : ad.block = w2.heap.size := h
                    have h5 := BK6.out.plain.lt
                    omega)
                 | (have h : ad.block = w6.heap.size := h
                    rw [show (w6.alloc (.cells #[.int .u64 0, .int .i64 0, .int .i64 0, .bool false, .slice none 0 0, .int .i64 0] 43)).heap.size = w6.heap.size + 1 by simp] at h4
                    omega)
             · first
                 | (have h : y = w2.heap.size := f
                    omega)
                 | (have h : y = w6.heap.size := f
                    have := KD6.out.size
                    omega))
    · simp only [Int.natCast_zero, Int.natCast_one, Int.cast_ofNat_Int] at e1
      go_wp2_with fail
      go_region_held3 (fun W => W.cell? ⟨w.heap.size, 0, none⟩ = some (.int .u64 P) ∧ W.cell? ⟨w.heap.size, 1, none⟩ = some (.int .i64 M) ∧ W.cell? ⟨w.heap.size, 2, none⟩ = some (.int .i64 1) ∧ W.cell? ⟨w.heap.size, 3, none⟩ = some (.bool n) ∧ W.cell? ⟨w.heap.size, 4, none⟩ = some (.slice A nl c) ∧ W.cell? ⟨w.heap.size, 5, none⟩ = some (.int .i64 E)) (first
        | (obtain ⟨q0, q1, q2, q3, q4, q5⟩ := hS7; refine ⟨?_, ?_, ?_, ?_, ?_, ?_⟩ <;> (rw [cell_setCell_ne _ _ _ _ _ _ (.inl (by omega)), cell_setCell_ne _ _ _ _ _ _ (.inl (by omega)), cell_setCell_ne _ _ _ _ _ _ (.inl (by omega)), cell_setCell_ne _ _ _ _ _ _ (.inl (by omega)), cell_setCell_ne _ _ _ _ _ _ (.inl (by omega)), cell_setCell_ne _ _ _ _ _ _ (.inl (by omega))]; assumption))
        | assumption | exact HKP.out _ (Chg.refl No w2).drew | exact HKP.out _ ((Chg.refl No w2).alloc _).drew | exact HKP.out _ ((Chg.refl No w2).alloc _) | exact HKP.out _ (KD6.out.alloc _) | exact HKP.out _ (KD7.out.alloc _)) (first
        | (go_at_call 24
           (show Calls Tryz.prog 24 #[_, .int .u8 ((112 : Nat) : Int), _] _ _)
           (with_reducible refine (HT.out w2.drew (K2.out.drew) HOK.out).mono ?_)
           rintro e6 w6 ⟨t6, ht6, rfl, hk6⟩
           have KD6 := Lib.hid ((Chg.refl No w2).drew.then hk6 (fun _ _ _ f => f))
           have HT6 := Lib.hid ht6
           have hS6 := HKP.out _ KD6.out
           clear hk6 ht6)
        | (go_at_call 24
           (show Calls Tryz.prog 24 #[_, .int .u8 ((112 : Nat) : Int), _] _ _)
           (with_reducible refine (HT.out (w2.alloc _).drew ((K2.out.alloc _).drew) HOK.out).mono ?_)
           rintro e6 w6 ⟨t6, ht6, rfl, hk6⟩
           have KD6 := Lib.hid (((Chg.refl No w2).alloc _).drew.then hk6 (fun _ _ _ f => f))
           have BK6 : Hid (Bk w6 w2.heap.size #[.int .u64 0, .int .i64 0, .int .i64 0, .bool false, .slice none 0 0, .int .i64 0]) := Lib.hid (Bk.chg (S := No) (Bk.new w2 #[.int .u64 0, .int .i64 0, .int .i64 0, .bool false, .slice none 0 0, .int .i64 0] 43) ((Chg.refl No _).drew.then hk6 (fun _ _ _ f => f)) (fun _ f => f))
           have HT6 := Lib.hid ht6
           have hS6 := HKP.out _ KD6.out
           clear hk6 ht6)
        | (go_at_call 42; (with_reducible refine (HPa.out _ w6 HT6.out (K2.out.then KD6.out (fun _ _ _ f => f)) HOK.out).mono ?_)
           rintro e7 w7 ⟨A2, c2, lz, ln, F2, bb, rfl, p1, p2, p3, p4, p5, p6, p7⟩
           have KD7 := Lib.hid (KD6.out.then p6 (fun _ _ _ f => f))
           have HL7 := Lib.hid p1
           have HP7 := Lib.hid (And.intro p2 (And.intro p4 p5))
           have HR7 := Lib.hid p3
           have HN7 := Lib.hid p7
           have hS7 := HKP.out _ KD7.out
           try (have g7 : Bk w7 w2.heap.size #[.int .u64 0, .int .i64 0, .int .i64 0, .bool false, .slice none 0 0, .int .i64 0] := Bk.chg (S := No) BK6.out p6 (fun _ f => f)
                have BK7 := Lib.hid g7
                have b0 : w7.cell? ⟨w2.heap.size, 0, none⟩ = some (.int .u64 0) := g7.cell 0
                have b1 : w7.cell? ⟨w2.heap.size, 1, none⟩ = some (.int .i64 0) := g7.cell 1
                have b2 : w7.cell? ⟨w2.heap.size, 2, none⟩ = some (.int .i64 0) := g7.cell 2
                have b3 : w7.cell? ⟨w2.heap.size, 3, none⟩ = some (.bool false) := g7.cell 3
                have b4 : w7.cell? ⟨w2.heap.size, 4, none⟩ = some (.slice none 0 0) := g7.cell 4
                have b5 : w7.cell? ⟨w2.heap.size, 5, none⟩ = some (.int .i64 0) := g7.cell 5
                have f0 := g7.plain.free 0
                have f1 := g7.plain.free 1
                have f2 := g7.plain.free 2
                have f3 := g7.plain.free 3
                have f4 := g7.plain.free 4
                have f5 := g7.plain.free 5
                clear g7)
           clear p1 p2 p3 p4 p5 p6 p7)
        | (go_at_call 42; (with_reducible refine (HPa.out _ (w6.alloc _) HT6.out (K2.out.then (KD6.out.alloc _) (fun _ _ _ f => f)) HOK.out).mono ?_)
           rintro e7 w7 ⟨A2, c2, lz, ln, F2, bb, rfl, p1, p2, p3, p4, p5, p6, p7⟩
           have KD7 := Lib.hid ((KD6.out.alloc _).then p6 (fun _ _ _ f => f))
           have HL7 := Lib.hid p1
           have HP7 := Lib.hid (And.intro p2 (And.intro p4 p5))
           have HR7 := Lib.hid p3
           have HN7 := Lib.hid p7
           have hS7 := HKP.out _ KD7.out
           have hb66 : w.heap.size < w6.heap.size := World.block_lt_of_cell? _ _ hS6.1
           have g7 : Bk w7 w6.heap.size #[.int .u64 0, .int .i64 0, .int .i64 0, .bool false, .slice none 0 0, .int .i64 0] := Bk.chg (S := No) (Bk.new w6 #[.int .u64 0, .int .i64 0, .int .i64 0, .bool false, .slice none 0 0, .int .i64 0] 43) p6 (fun _ f => f)
           have BK7 := Lib.hid g7
           have b0 : w7.cell? ⟨w6.heap.size, 0, none⟩ = some (.int .u64 0) := g7.cell 0
           have b1 : w7.cell? ⟨w6.heap.size, 1, none⟩ = some (.int .i64 0) := g7.cell 1
           have b2 : w7.cell? ⟨w6.heap.size, 2, none⟩ = some (.int .i64 0) := g7.cell 2
           have b3 : w7.cell? ⟨w6.heap.size, 3, none⟩ = some (.bool false) := g7.cell 3
           have b4 : w7.cell? ⟨w6.heap.size, 4, none⟩ = some (.slice none 0 0) := g7.cell 4
           have b5 : w7.cell? ⟨w6.heap.size, 5, none⟩ = some (.int .i64 0) := g7.cell 5
           have f0 := g7.plain.free 0
           have f1 := g7.plain.free 1
           have f2 := g7.plain.free 2
           have f3 := g7.plain.free 3
           have f4 := g7.plain.free 4
           have f5 := g7.plain.free 5
           clear g7 p1 p2 p3 p4 p5 p6 p7))
      all_goals
        go_wp2_with fail
        go_meet
        first
          | with_reducible exact ⟨_, A2, c2, lz, ln, F2, bb, rfl, rfl, rfl, rfl, HL7, Lib.hid (Bk.new _ _ _), HP7, Lib.hid (HR7.out.chg ((Chg.refl No w7).alloc _)), Lib.hid (KD7.out.alloc _)⟩
          | (have ks := BK7.out.sr6_chg (p := 0) (P := P) (by decide) hPW ⟨by simp, by simp⟩ ⟨by simp, by simp⟩ ⟨by simp, by simp⟩ ⟨by simp, by simp⟩ ⟨by simp, by simp⟩ (.int .i64 M) (.int .i64 1) (.bool n) (.slice A2 ln c2) (.int .i64 F2)
             have hfl := BK7.out.plain.lt
             refine ⟨_, A2, c2, lz, ln, F2, bb, rfl, rfl, rfl, rfl, HL7, Lib.hid (BK7.out.sr6 _ _ _ _ _ _), HP7, Lib.hid (HR7.out.chgB ks (fun ad e0 h0 o h => ?_)), Lib.hid (KD7.out.then ks (fun y o hy f => ?_))⟩
             · have h4 := HN7.out ad e0 h0
               first
                 | (have h : ad.block = w2.heap.size := h
                    have h5 := BK6.out.plain.lt
                    omega)
                 | (have h : ad.block = w6.heap.size := h
                    rw [show (w6.alloc (.cells #[.int .u64 0, .int .i64 0, .int .i64 0, .bool false, .slice none 0 0, .int .i64 0] 43)).heap.size = w6.heap.size + 1 by simp] at h4
                    omega)
             · first
                 | (have h : y = w2.heap.size := f
                    omega)
                 | (have h : y = w6.heap.size := f
                    have := KD6.out.size
                    omega))
    · simp only [Int.natCast_zero, Int.natCast_one, Int.cast_ofNat_Int] at e1
      go_wp2_with fail
      go_region_held3 (fun W => W.cell? ⟨w.heap.size, 0, none⟩ = some (.int .u64 P) ∧ W.cell? ⟨w.heap.size, 1, none⟩ = some (.int .i64 M) ∧ W.cell? ⟨w.heap.size, 2, none⟩ = some (.int .i64 1) ∧ W.cell? ⟨w.heap.size, 3, none⟩ = some (.bool n) ∧ W.cell? ⟨w.heap.size, 4, none⟩ = some (.slice A nl c) ∧ W.cell? ⟨w.heap.size, 5, none⟩ = some (.int .i64 E)) (first
        | (obtain ⟨q0, q1, q2, q3, q4, q5⟩ := hS7; refine ⟨?_, ?_, ?_, ?_, ?_, ?_⟩ <;> (rw [cell_setCell_ne _ _ _ _ _ _ (.inl (by omega)), cell_setCell_ne _ _ _ _ _ _ (.inl (by omega)), cell_setCell_ne _ _ _ _ _ _ (.inl (by omega)), cell_setCell_ne _ _ _ _ _ _ (.inl (by omega)), cell_setCell_ne _ _ _ _ _ _ (.inl (by omega)), cell_setCell_ne _ _ _ _ _ _ (.inl (by omega))]; assumption))
        | assumption | exact HKP.out _ (Chg.refl No w2).drew | exact HKP.out _ ((Chg.refl No w2).alloc _).drew | exact HKP.out _ ((Chg.refl No w2).alloc _) | exact HKP.out _ (KD6.out.alloc _) | exact HKP.out _ (KD7.out.alloc _)) (first
        | (go_at_call 24
           (show Calls Tryz.prog 24 #[_, .int .u8 ((98 : Nat) : Int), _] _ _)
           (with_reducible refine (HT.out w2.drew (K2.out.drew) HOK.out).mono ?_)
           rintro e6 w6 ⟨t6, ht6, rfl, hk6⟩
           have KD6 := Lib.hid ((Chg.refl No w2).drew.then hk6 (fun _ _ _ f => f))
           have HT6 := Lib.hid ht6
           have hS6 := HKP.out _ KD6.out
           clear hk6 ht6)
        | (go_at_call 24
           (show Calls Tryz.prog 24 #[_, .int .u8 ((98 : Nat) : Int), _] _ _)
           (with_reducible refine (HT.out (w2.alloc _).drew ((K2.out.alloc _).drew) HOK.out).mono ?_)
           rintro e6 w6 ⟨t6, ht6, rfl, hk6⟩
           have KD6 := Lib.hid (((Chg.refl No w2).alloc _).drew.then hk6 (fun _ _ _ f => f))
           have BK6 : Hid (Bk w6 w2.heap.size #[.int .u64 0, .int .i64 0, .int .i64 0, .bool false, .slice none 0 0, .int .i64 0]) := Lib.hid (Bk.chg (S := No) (Bk.new w2 #[.int .u64 0, .int .i64 0, .int .i64 0, .bool false, .slice none 0 0, .int .i64 0] 43) ((Chg.refl No _).drew.then hk6 (fun _ _ _ f => f)) (fun _ f => f))
           have HT6 := Lib.hid ht6
           have hS6 := HKP.out _ KD6.out
           clear hk6 ht6)
        | (go_at_call 42; (with_reducible refine (HPa.out _ w6 HT6.out (K2.out.then KD6.out (fun _ _ _ f => f)) HOK.out).mono ?_)
           rintro e7 w7 ⟨A2, c2, lz, ln, F2, bb, rfl, p1, p2, p3, p4, p5, p6, p7⟩
           have KD7 := Lib.hid (KD6.out.then p6 (fun _ _ _ f => f))
           have HL7 := Lib.hid p1
           have HP7 := Lib.hid (And.intro p2 (And.intro p4 p5))
           have HR7 := Lib.hid p3
           have HN7 := Lib.hid p7
           have hS7 := HKP.out _ KD7.out
           try (have g7 : Bk w7 w2.heap.size #[.int .u64 0, .int .i64 0, .int .i64 0, .bool false, .slice none 0 0, .int .i64 0] := Bk.chg (S := No) BK6.out p6 (fun _ f => f)
                have BK7 := Lib.hid g7
                have b0 : w7.cell? ⟨w2.heap.size, 0, none⟩ = some (.int .u64 0) := g7.cell 0
                have b1 : w7.cell? ⟨w2.heap.size, 1, none⟩ = some (.int .i64 0) := g7.cell 1
                have b2 : w7.cell? ⟨w2.heap.size, 2, none⟩ = some (.int .i64 0) := g7.cell 2
                have b3 : w7.cell? ⟨w2.heap.size, 3, none⟩ = some (.bool false) := g7.cell 3
                have b4 : w7.cell? ⟨w2.heap.size, 4, none⟩ = some (.slice none 0 0) := g7.cell 4
                have b5 : w7.cell? ⟨w2.heap.size, 5, none⟩ = some (.int .i64 0) := g7.cell 5
                have f0 := g7.plain.free 0
                have f1 := g7.plain.free 1
                have f2 := g7.plain.free 2
                have f3 := g7.plain.free 3
                have f4 := g7.plain.free 4
                have f5 := g7.plain.free 5
                clear g7)
           clear p1 p2 p3 p4 p5 p6 p7)
        | (go_at_call 42; (with_reducible refine (HPa.out _ (w6.alloc _) HT6.out (K2.out.then (KD6.out.alloc _) (fun _ _ _ f => f)) HOK.out).mono ?_)
           rintro e7 w7 ⟨A2, c2, lz, ln, F2, bb, rfl, p1, p2, p3, p4, p5, p6, p7⟩
           have KD7 := Lib.hid ((KD6.out.alloc _).then p6 (fun _ _ _ f => f))
           have HL7 := Lib.hid p1
           have HP7 := Lib.hid (And.intro p2 (And.intro p4 p5))
           have HR7 := Lib.hid p3
           have HN7 := Lib.hid p7
           have hS7 := HKP.out _ KD7.out
           have hb66 : w.heap.size < w6.heap.size := World.block_lt_of_cell? _ _ hS6.1
           have g7 : Bk w7 w6.heap.size #[.int .u64 0, .int .i64 0, .int .i64 0, .bool false, .slice none 0 0, .int .i64 0] := Bk.chg (S := No) (Bk.new w6 #[.int .u64 0, .int .i64 0, .int .i64 0, .bool false, .slice none 0 0, .int .i64 0] 43) p6 (fun _ f => f)
           have BK7 := Lib.hid g7
           have b0 : w7.cell? ⟨w6.heap.size, 0, none⟩ = some (.int .u64 0) := g7.cell 0
           have b1 : w7.cell? ⟨w6.heap.size, 1, none⟩ = some (.int .i64 0) := g7.cell 1
           have b2 : w7.cell? ⟨w6.heap.size, 2, none⟩ = some (.int .i64 0) := g7.cell 2
           have b3 : w7.cell? ⟨w6.heap.size, 3, none⟩ = some (.bool false) := g7.cell 3
           have b4 : w7.cell? ⟨w6.heap.size, 4, none⟩ = some (.slice none 0 0) := g7.cell 4
           have b5 : w7.cell? ⟨w6.heap.size, 5, none⟩ = some (.int .i64 0) := g7.cell 5
           have f0 := g7.plain.free 0
           have f1 := g7.plain.free 1
           have f2 := g7.plain.free 2
           have f3 := g7.plain.free 3
           have f4 := g7.plain.free 4
           have f5 := g7.plain.free 5
           clear g7 p1 p2 p3 p4 p5 p6 p7))
      all_goals
        go_wp2_with fail
        go_meet
        first
          | with_reducible exact ⟨_, A2, c2, lz, ln, F2, bb, rfl, rfl, rfl, rfl, HL7, Lib.hid (Bk.new _ _ _), HP7, Lib.hid (HR7.out.chg ((Chg.refl No w7).alloc _)), Lib.hid (KD7.out.alloc _)⟩
          | (have ks := BK7.out.sr6_chg (p := 0) (P := P) (by decide) hPW ⟨by simp, by simp⟩ ⟨by simp, by simp⟩ ⟨by simp, by simp⟩ ⟨by simp, by simp⟩ ⟨by simp, by simp⟩ (.int .i64 M) (.int .i64 1) (.bool n) (.slice A2 ln c2) (.int .i64 F2)
             have hfl := BK7.out.plain.lt
             refine ⟨_, A2, c2, lz, ln, F2, bb, rfl, rfl, rfl, rfl, HL7, Lib.hid (BK7.out.sr6 _ _ _ _ _ _), HP7, Lib.hid (HR7.out.chgB ks (fun ad e0 h0 o h => ?_)), Lib.hid (KD7.out.then ks (fun y o hy f => ?_))⟩
             · have h4 := HN7.out ad e0 h0
               first
                 | (have h : ad.block = w2.heap.size := h
                    have h5 := BK6.out.plain.lt
                    omega)
                 | (have h : ad.block = w6.heap.size := h
                    rw [show (w6.alloc (.cells #[.int .u64 0, .int .i64 0, .int .i64 0, .bool false, .slice none 0 0, .int .i64 0] 43)).heap.size = w6.heap.size + 1 by simp] at h4
                    omega)
             · first
                 | (have h : y = w2.heap.size := f
                    omega)
                 | (have h : y = w6.heap.size := f
                    have := KD6.out.size
                    omega))
  case rest =>
    obtain ⟨fb, A2, c2, lz, ln, F2, bb, rfl, rfl, rfl, rfl, HL7, BKF, HP7, HR7, KDF⟩ := hcut
    generalize wc = wa at *
    have HKF : Hid (∀ W, Chg No wa W → (W.cell? ⟨w.heap.size, 0, none⟩ = some (.int .u64 P) ∧ W.cell? ⟨w.heap.size, 1, none⟩ = some (.int .i64 M) ∧ W.cell? ⟨w.heap.size, 2, none⟩ = some (.int .i64 1) ∧ W.cell? ⟨w.heap.size, 3, none⟩ = some (.bool n) ∧ W.cell? ⟨w.heap.size, 4, none⟩ = some (.slice A nl c) ∧ W.cell? ⟨w.heap.size, 5, none⟩ = some (.int .i64 E)) ∧
        W.cell? ⟨fb, 0, none⟩ = some (.int .u64 P) ∧ W.cell? ⟨fb, 1, none⟩ = some (.int .i64 M) ∧ W.cell? ⟨fb, 2, none⟩ = some (.int .i64 1) ∧ W.cell? ⟨fb, 3, none⟩ = some (.bool n) ∧ W.cell? ⟨fb, 4, none⟩ = some (.slice A2 ln c2) ∧ W.cell? ⟨fb, 5, none⟩ = some (.int .i64 F2)) :=
      Lib.hid fun W hW => by
        have gg := BKF.out.chg hW (fun _ f => f)
        exact ⟨HKP.out _ (KDF.out.then hW (fun _ _ _ f => f)), gg.cell 0, gg.cell 1, gg.cell 2, gg.cell 3, gg.cell 4, gg.cell 5⟩
    go_wp2_with fail
    go_region_held3 (fun W => (W.cell? ⟨w.heap.size, 0, none⟩ = some (.int .u64 P) ∧ W.cell? ⟨w.heap.size, 1, none⟩ = some (.int .i64 M) ∧ W.cell? ⟨w.heap.size, 2, none⟩ = some (.int .i64 1) ∧ W.cell? ⟨w.heap.size, 3, none⟩ = some (.bool n) ∧ W.cell? ⟨w.heap.size, 4, none⟩ = some (.slice A nl c) ∧ W.cell? ⟨w.heap.size, 5, none⟩ = some (.int .i64 E)) ∧
        W.cell? ⟨fb, 0, none⟩ = some (.int .u64 P) ∧ W.cell? ⟨fb, 1, none⟩ = some (.int .i64 M) ∧ W.cell? ⟨fb, 2, none⟩ = some (.int .i64 1) ∧ W.cell? ⟨fb, 3, none⟩ = some (.bool n) ∧ W.cell? ⟨fb, 4, none⟩ = some (.slice A2 ln c2) ∧ W.cell? ⟨fb, 5, none⟩ = some (.int .i64 F2)) (first | assumption | exact HKF.out _ (Chg.refl No wa).drew) (first
      | (go_at_call 20; (with_reducible refine (HOf.out wa.drew ((K2.out.then KDF.out (fun _ _ _ f => f)).drew) HOK.out).mono ?_)
         rintro e8 w8 ⟨v8, rfl, hs8, hk8⟩
         have KD8 := Lib.hid ((Chg.refl No wa).drew.then hk8 (fun _ _ _ f => f))
         have HS8 := Lib.hid hs8
         have hS8 := HKF.out _ KD8.out
         clear hk8 hs8)
      | (go_at_call 43; (with_reducible refine (HIs.out A2 c2 lz ln F2 v8 w8 HL7.out ((K2.out.then KDF.out (fun _ _ _ f => f)).then KD8.out (fun _ _ _ f => f)) HOK.out HP7.out.1 (HR7.out.chg KD8.out) HP7.out.2.1 HP7.out.2.2 HS8.out).mono ?_)
         rintro e9 w9 ⟨rfl, hk9⟩
         have KD9 := Lib.hid (KD8.out.then hk9 (fun _ _ _ f => f))
         have hS9 := HKF.out _ KD9.out
         clear hk9))
    all_goals
      go_wp2_with fail
      go_ret
      exact ⟨rfl, (K2.out.then KDF.out (fun _ _ _ f => f)).then KD9.out (fun _ _ _ f => f)⟩
end Go.Proofs.YtacfhndledcmgaaGreatDoor
