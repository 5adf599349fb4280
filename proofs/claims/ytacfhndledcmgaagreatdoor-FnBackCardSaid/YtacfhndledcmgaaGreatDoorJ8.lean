/- Lemmas for the law FnBack: laws.parts and laws.real. Conditions: those in each theorem; none besides. -/
import Derived.Test.YtacfhndledcmgaaGreatDoorJ7
import Derived.Deep.RegionHeld3
set_option linter.unusedVariables false
set_option linter.unusedSimpArgs false
namespace Go.Proofs.YtacfhndledcmgaaGreatDoor
open Go.RowKit
/-- What 'real' lets in, of the finite ones. -/
def RealOk (B Mo P : Nat) (M E : Int) (l : List Nat) : Prop := 1 ≤ P ∧ P ≤ B ∧ 0 ≤ M ∧ M ≤ 5 ∧ l.length ≤ (P + 63) / 64 ∧ Vl l ≠ 0 ∧ blen (Vl l) ≤ P ∧ -(Mo : Int) ≤ E ∧ E ≤ Mo
def RealOut (B Mo P : Nat) (M F E : Int) (l : List Nat) (w : World) (e : Ending) (w' : World) : Prop := ∃ b, e = .returned (.bool b) ∧ (b = true → F = 1 → RealOk B Mo P M E l) ∧ Chg No w w'
set_option maxRecDepth 100000 in
set_option maxHeartbeats 2000000 in
theorem laws_real_bad (B Mo P : Nat) (M F : Int) (n : Bool) (A : Option Addr) (c : Nat) (l : List Nat) (E : Int) (w : World) (hP : P < 18446744073709551616) (hB : B ≤ 1000) (hbad : P = 0 ∨ B < P ∨ M < 0 ∨ 5 < M) :
    Calls Tryz.prog 19 #[.agg #[.int .u64 P, .int .i64 M, .int .i64 F, .bool n, .slice A l.length c, .int .i64 E], .int .u64 B, .int .i64 Mo] w (RealOut B Mo P M F E l w) := by
  have fin : ∀ w', Chg No w w' → RealOut B Mo P M F E l w (.returned (.bool false)) w' := fun w' h => ⟨false, rfl, (fun h => by cases h), h⟩
  have HF := Lib.hid fin
  clear fin
  by_cases h1 : P = 0
  · subst h1
    clear hbad hP
    go_enter Tryz.func19, Tryz.ntmps19
    go_wp2_with fail
    go_ret
    exact HF.out _ ((Chg.refl No w).alloc _)
  have d1 : decide ((P : Int) < 1) = false := decide_eq_false (by omega)
  have d1b : decide (P < 1) = false := decide_eq_false (by omega)
  by_cases h2 : B < P
  · have d2 : decide ((B : Int) < (P : Int)) = true := decide_eq_true (by omega)
    have d2b : decide (B < P) = true := decide_eq_true h2
    clear hbad hP
    go_enter Tryz.func19, Tryz.ntmps19
    go_wp2_with fail
    go_ret
    exact HF.out _ ((Chg.refl No w).alloc _)
  have d2 : decide ((B : Int) < (P : Int)) = false := decide_eq_false (by omega)
  have d2b : decide (B < P) = false := decide_eq_false h2
  by_cases h3 : M < 0
  · have d3 : decide (M < 0) = true := decide_eq_true h3
    clear hbad hP
    go_enter Tryz.func19, Tryz.ntmps19
    go_wp2_with fail
    go_ret
    exact HF.out _ ((Chg.refl No w).alloc _)
  · have d3 : decide (M < 0) = false := decide_eq_false h3
    have h4 : 5 < M := by omega
    have d4 : decide (5 < M) = true := decide_eq_true h4
    clear hbad hP
    go_enter Tryz.func19, Tryz.ntmps19
    go_wp2_with fail
    go_ret
    exact HF.out _ ((Chg.refl No w).alloc _)
set_option maxRecDepth 100000 in
set_option maxHeartbeats 2000000 in
theorem laws_real_form (B Mo P : Nat) (M F : Int) (n : Bool) (A : Option Addr) (c : Nat) (l : List Nat) (E : Int) (w : World) (hP1 : 1 ≤ P) (hP2 : P ≤ B) (hM1 : 0 ≤ M) (hM2 : M ≤ 5) (hB : B ≤ 1000) (hF : F ≠ 1) :
    Calls Tryz.prog 19 #[.agg #[.int .u64 P, .int .i64 M, .int .i64 F, .bool n, .slice A l.length c, .int .i64 E], .int .u64 B, .int .i64 Mo] w (RealOut B Mo P M F E l w) := by
  have fin : ∀ b w', Chg No w w' → RealOut B Mo P M F E l w (.returned (.bool b)) w' := fun b w' h => ⟨b, rfl, (fun _ h => absurd h hF), h⟩
  have HF := Lib.hid fin
  have d1 : decide ((P : Int) < 1) = false := decide_eq_false (by omega)
  have d1b : decide (P < 1) = false := decide_eq_false (by omega)
  have d1c : decide (P = 0) = false := decide_eq_false (by omega)
  have d2 : decide ((B : Int) < (P : Int)) = false := decide_eq_false (by omega)
  have d2b : decide (B < P) = false := decide_eq_false (by omega)
  have d3 : decide (M < 0) = false := decide_eq_false (by omega)
  have d4 : decide (5 < M) = false := decide_eq_false (by omega)
  have t1 : (F == 1) = false := beq_eq_false_iff_ne.2 hF
  have t2 : (F != 1) = true := by simp [bne, t1]
  clear fin hF
  by_cases h0 : F = 0
  · subst h0
    go_enter Tryz.func19, Tryz.ntmps19
    go_wp2_with fail
    go_ret
    exact HF.out _ _ ((Chg.refl No w).alloc _)
  · have t3 : (F == 0) = false := beq_eq_false_iff_ne.2 h0
    clear h0
    go_enter Tryz.func19, Tryz.ntmps19
    go_wp2_with fail
    go_ret
    exact HF.out _ _ ((Chg.refl No w).alloc _)
set_option maxRecDepth 100000 in
set_option maxHeartbeats 2000000 in
theorem laws_real_long (B Mo P : Nat) (M : Int) (n : Bool) (A : Option Addr) (c : Nat) (l : List Nat) (E : Int) (w : World) (hP1 : 1 ≤ P) (hP2 : P ≤ B) (hM1 : 0 ≤ M) (hM2 : M ≤ 5) (hB : B ≤ 1000) (hl : (P + 63) / 64 < l.length) :
    Calls Tryz.prog 19 #[.agg #[.int .u64 P, .int .i64 M, .int .i64 1, .bool n, .slice A l.length c, .int .i64 E], .int .u64 B, .int .i64 Mo] w (RealOut B Mo P M 1 E l w) := by
  have fin : ∀ w', Chg No w w' → RealOut B Mo P M 1 E l w (.returned (.bool false)) w' := fun w' h => ⟨false, rfl, (fun h => by cases h), h⟩
  have HF := Lib.hid fin
  obtain ⟨k, hk⟩ : ∃ k, k = l.length := ⟨_, rfl⟩
  rw [← hk] at hl ⊢
  obtain ⟨q, hq⟩ : ∃ q, q = (P + 63) / 64 := ⟨_, rfl⟩
  have e1 : ((P : Int) + 63) / 64 = (q : Int) := by omega
  have e2 : IntKind.u64.wrap ((P : Int) + 63) = (P : Int) + 63 := IntWalk.u64_in _ (by omega)
  have e3 : IntKind.i64.wrap ((P : Int) + 63) = (P : Int) + 63 := IntWalk.i64_in _ (by omega)
  have d1 : decide ((P : Int) < 1) = false := decide_eq_false (by omega)
  have d1b : decide (P < 1) = false := decide_eq_false (by omega)
  have d1c : decide (P = 0) = false := decide_eq_false (by omega)
  have d2 : decide ((B : Int) < (P : Int)) = false := decide_eq_false (by omega)
  have d2b : decide (B < P) = false := decide_eq_false (by omega)
  have d3 : decide (M < 0) = false := decide_eq_false (by omega)
  have d4 : decide (5 < M) = false := decide_eq_false (by omega)
  have d5 : decide ((q : Int) < (k : Int)) = true := decide_eq_true (by omega)
  have d5b : (q : Int) < (k : Int) := by omega
  clear fin hk hq hl
  go_enter Tryz.func19, Tryz.ntmps19
  go_wp2_with fail
  go_ret
  exact HF.out _ ((Chg.refl No w).alloc _)
set_option maxRecDepth 100000 in
set_option maxHeartbeats 2000000 in
theorem laws_real_fin (B Mo P : Nat) (M : Int) (n : Bool) (A : Option Addr) (c : Nat) (l : List Nat) (E : Int) (w : World) (hP1 : 1 ≤ P) (hP2 : P ≤ B) (hM1 : 0 ≤ M) (hM2 : M ≤ 5) (hB : B ≤ 1000) (hMo : Mo ≤ 2000) (hl : l.length ≤ (P + 63) / 64) (hr : RdU w A l) (hm : ∀ x ∈ l, x < WB) (hc : l.length ≤ c) :
    Calls Tryz.prog 19 #[.agg #[.int .u64 P, .int .i64 M, .int .i64 1, .bool n, .slice A l.length c, .int .i64 E], .int .u64 B, .int .i64 Mo] w (RealOut B Mo P M 1 E l w) := by
  have hX : Vl l < 65536 ^ 200 := by
    have h := V_lt (f := fun i => l.getD i 0) l.length (fun i hi => by have := hm _ (List.getElem_mem hi); rw [← gd_lt hi] at this; exact this)
    rw [WB_65536, ← Nat.pow_mul] at h
    exact Nat.lt_of_lt_of_le h (Nat.pow_le_pow_right (by decide) (by omega))
  have H1 : Hid (∀ W, Chg No w W → Calls Tryz.prog 28 #[.slice A l.length c] W (SnOut (Vl l) W)) := Lib.hid fun W hW => spec_Of A c l W (hr.chg hW) (by omega) hm hc
  have fin : ∀ b w', (b = true → Vl l ≠ 0 ∧ blen (Vl l) ≤ P ∧ -(Mo : Int) ≤ E ∧ E ≤ Mo) → Chg No w w' → RealOut B Mo P M 1 E l w (.returned (.bool b)) w' := fun b w' h1 h => ⟨b, rfl, (fun h2 _ => by obtain ⟨a1, a2, a3, a4⟩ := h1 h2; exact ⟨hP1, hP2, hM1, hM2, hl, a1, a2, a3, a4⟩), h⟩
  have HF := Lib.hid fin
  obtain ⟨k, hk⟩ : ∃ k, k = l.length := ⟨_, rfl⟩
  rw [← hk] at hl hc H1 ⊢
  obtain ⟨q, hq⟩ : ∃ q, q = (P + 63) / 64 := ⟨_, rfl⟩
  have e1 : ((P : Int) + 63) / 64 = (q : Int) := by omega
  have e2 : IntKind.u64.wrap ((P : Int) + 63) = (P : Int) + 63 := IntWalk.u64_in _ (by omega)
  have e3 : IntKind.i64.wrap ((P : Int) + 63) = (P : Int) + 63 := IntWalk.i64_in _ (by omega)
  have e4 : IntKind.i64.wrap (-(Mo : Int)) = -(Mo : Int) := IntWalk.i64_in _ (by omega)
  have e5 : IntKind.i64.wrap (P : Int) = (P : Int) := IntWalk.i64_in _ (by omega)
  have d1 : decide ((P : Int) < 1) = false := decide_eq_false (by omega)
  have d1b : decide (P < 1) = false := decide_eq_false (by omega)
  have d1c : decide (P = 0) = false := decide_eq_false (by omega)
  have d2 : decide ((B : Int) < (P : Int)) = false := decide_eq_false (by omega)
  have d2b : decide (B < P) = false := decide_eq_false (by omega)
  have d3 : decide (M < 0) = false := decide_eq_false (by omega)
  have d4 : decide (5 < M) = false := decide_eq_false (by omega)
  have d5 : decide ((q : Int) < (k : Int)) = false := decide_eq_false (by omega)
  have d5b : ¬ (q : Int) < (k : Int) := by omega
  have d5c : decide (q < k) = false := decide_eq_false (by omega)
  have HX := Lib.hid hX
  clear fin hk hq hl hr hm hX
  have k1 := Lib.hid ((Chg.refl No w).alloc (.cells #[.int .u64 P, .int .i64 M, .int .i64 1, .bool n, .slice A k c, .int .i64 E] 43))
  have c0 := World.cell?_alloc_new w #[.int .u64 P, .int .i64 M, .int .i64 1, .bool n, .slice A k c, .int .i64 E] 43 0
  have c5 := World.cell?_alloc_new w #[.int .u64 P, .int .i64 M, .int .i64 1, .bool n, .slice A k c, .int .i64 E] 43 5
  have HC := Lib.hid (And.intro c0 c5)
  have hlt : w.heap.size < (w.alloc (.cells #[.int .u64 P, .int .i64 M, .int .i64 1, .bool n, .slice A k c, .int .i64 E] 43)).heap.size := by simp
  have HLT := Lib.hid hlt
  clear c0 c5 hlt
  have H1w := Lib.hid (H1.out _ k1.out)
  go_enter Tryz.func19, Tryz.ntmps19
  go_wp2_with fail
  refine H1w.out.mono ?_
  rintro e w2 ⟨r, rfl, hr2, hk2⟩
  obtain ⟨rA, rn, rc, rfl⟩ := (show ∃ a n c, r = .slice a n c by obtain ⟨l, A, c, e, _⟩ := hr2.view; exact ⟨_, _, _, e⟩)
  have q0 := (hk2.cell _ _ HLT.out (fun f => f)).trans HC.out.1
  have q5 := (hk2.cell _ _ HLT.out (fun f => f)).trans HC.out.2
  simp at q0 q5
  have hrn : (rn = 0 ↔ Vl l = 0) := by
    obtain ⟨ll, hS, hv, hd, ht⟩ := hr2
    obtain ⟨A2, c2, e2, _⟩ := hS
    have e2 : Value.slice rA rn rc = .slice A2 (ints ll).length c2 := e2
    simp [ints_length] at e2
    obtain ⟨-, rfl, -⟩ := e2
    rw [← hv]
    constructor
    · intro h
      have : ll = [] := List.length_eq_zero_iff.1 h
      subst this; rfl
    · intro h
      rcases Nat.eq_zero_or_pos ll.length with h' | h'
      · exact h'
      · have := Vb_ge ht h'
        have := Nat.pow_pos (n := ll.length - 1) (show 0 < 65536 by decide)
        omega
  have H2 : Hid (∀ j, Calls Tryz.prog 56 #[.slice rA rn rc] (w2.drewN j) fun e w' => e = .returned (.int .i64 (blen (Vl l))) ∧ w' = w2.drewN j) := Lib.hid fun j => (spec_Len (.slice rA rn rc) (Vl l) 200 (w2.drewN j) (hr2.chg ((Chg.refl No w2).drewN j)) HX.out (by decide)).mono fun _ _ h => ⟨h.1, h.2.symm⟩
  have HK := Lib.hid (k1.out.then hk2 (fun _ _ _ f => f))
  clear hr2 hk2
  by_cases h0 : rn = 0
  · have d6 : decide ((0 : Int) < (rn : Int)) = false := decide_eq_false (by omega)
    have d6b : decide (0 < rn) = false := decide_eq_false (by omega)
    clear h0 hrn
    go_wp2_with fail
    go_quiet (fail)
    go_wp2_with fail
    go_ret
    exact HF.out _ _ (fun h => by cases h) (HK.out.drewN _)
  have d6 : decide ((0 : Int) < (rn : Int)) = true := decide_eq_true (by omega)
  have d6b : decide (0 < rn) = true := decide_eq_true (by omega)
  have hX0 : Vl l ≠ 0 := fun h => h0 (hrn.2 h)
  obtain ⟨L, hL⟩ : ∃ L, L = blen (Vl l) := ⟨_, rfl⟩
  rw [← hL] at H2 HF
  have HX0 := Lib.hid hX0
  have hLb : L ≤ 4000 := by
    rw [hL]
    have := blen_le (P := 16 * 200) hX0 (by have := HX.out; rwa [show (65536 : Nat) = 2 ^ 16 by decide, ← Nat.pow_mul] at this)
    omega
  clear h0 hrn hX0 hL
  by_cases h1 : L ≤ P
  · have d7 : decide ((L : Int) ≤ (P : Int)) = true := decide_eq_true (by omega)
    have d7b : decide (L ≤ P) = true := decide_eq_true h1
    by_cases h2 : -(Mo : Int) ≤ E
    · have d8 : decide (-(Mo : Int) ≤ E) = true := decide_eq_true h2
      by_cases h3 : E ≤ Mo
      · have d9 : decide (E ≤ (Mo : Int)) = true := decide_eq_true h3
        have HH := Lib.hid (And.intro h1 (And.intro h2 h3))
        clear h1 h2 h3
        go_wp2_with fail
        go_quiet ((go_at_call 56; exact Calls.quiet_of_same (H2.out _)))
        go_wp2_with fail
        go_ret
        exact HF.out _ _ (fun _ => ⟨HX0.out, HH.out⟩) (HK.out.drewN _)
      · have d9 : decide (E ≤ (Mo : Int)) = false := decide_eq_false h3
        clear h1 h2 h3
        go_wp2_with fail
        go_quiet ((go_at_call 56; exact Calls.quiet_of_same (H2.out _)))
        go_wp2_with fail
        go_ret
        exact HF.out _ _ (fun h => by cases h) (HK.out.drewN _)
    · have d8 : decide (-(Mo : Int) ≤ E) = false := decide_eq_false h2
      clear h1 h2
      go_wp2_with fail
      go_quiet ((go_at_call 56; exact Calls.quiet_of_same (H2.out _)))
      go_wp2_with fail
      go_ret
      exact HF.out _ _ (fun h => by cases h) (HK.out.drewN _)
  · have d7 : decide ((L : Int) ≤ (P : Int)) = false := decide_eq_false (by omega)
    have d7b : decide (L ≤ P) = false := decide_eq_false h1
    clear h1
    go_wp2_with fail
    go_quiet ((go_at_call 56; exact Calls.quiet_of_same (H2.out _)))
    go_wp2_with fail
    go_ret
    exact HF.out _ _ (fun h => by cases h) (HK.out.drewN _)
theorem laws_real (B Mo P : Nat) (M F : Int) (n : Bool) (A : Option Addr) (c : Nat) (l : List Nat) (E : Int) (w : World) (hP : P < 18446744073709551616) (hB : B ≤ 1000) (hMo : Mo ≤ 2000) (hr : RdU w A l) (hm : ∀ x ∈ l, x < WB) (hc : l.length ≤ c) :
    Calls Tryz.prog 19 #[.agg #[.int .u64 P, .int .i64 M, .int .i64 F, .bool n, .slice A l.length c, .int .i64 E], .int .u64 B, .int .i64 Mo] w (RealOut B Mo P M F E l w) := by
  by_cases hbad : P = 0 ∨ B < P ∨ M < 0 ∨ 5 < M
  · exact laws_real_bad B Mo P M F n A c l E w hP hB hbad
  · by_cases hF : F = 1
    · subst hF
      by_cases hl : (P + 63) / 64 < l.length
      · exact laws_real_long B Mo P M n A c l E w (by omega) (by omega) (by omega) (by omega) hB hl
      · exact laws_real_fin B Mo P M n A c l E w (by omega) (by omega) (by omega) (by omega) hB hMo (by omega) hr hm hc
    · exact laws_real_form B Mo P M F n A c l E w (by omega) (by omega) (by omega) (by omega) hB hF
set_option maxRecDepth 100000 in
set_option maxHeartbeats 1000000 in
theorem zzFits1_big (P : Nat) (M F : Int) (n : Bool) (A : Option Addr) (k c : Nat) (E : Int) (w : World) (hk : 2147483647 < k) :
    Calls Tryz.prog 18 #[.agg #[.int .u64 P, .int .i64 M, .int .i64 F, .bool n, .slice A k c, .int .i64 E]] w fun e w' => e = .returned (.bool false) ∧ Chg No w w' := by
  have d1 : decide (2147483647 < (k : Int)) = true := decide_eq_true (by omega)
  have d2 : decide (2147483647 < k) = true := decide_eq_true (by omega)
  clear hk
  go_enter Tryz.func18, Tryz.ntmps18
  go_wp2_with fail
  go_ret
  exact ⟨rfl, (Chg.refl No w).alloc _⟩
/-- zzFits1, either way. -/
theorem zzFits1_any (P : Nat) (M F : Int) (n : Bool) (A : Option Addr) (k c : Nat) (E : Int) (w : World) :
    Calls Tryz.prog 18 #[.agg #[.int .u64 P, .int .i64 M, .int .i64 F, .bool n, .slice A k c, .int .i64 E]] w fun e w' => ∃ b, e = .returned (.bool b) ∧ Chg No w w' := by
  by_cases hk : k ≤ 2147483647
  · exact (zzFits1 P M F n A k c E w hk).mono fun _ _ ⟨h1, h2⟩ => ⟨_, h1, h2⟩
  · exact (zzFits1_big P M F n A k c E w (by omega)).mono fun _ _ ⟨h1, h2⟩ => ⟨_, h1, h2⟩
/-- The cells of a Real at one's own. -/
def RealAt (w : World) (b P : Nat) (M F : Int) (n : Bool) (A : Option Addr) (k c : Nat) (E : Int) : Prop := w.cell? ⟨b, 0, none⟩ = some (.int .u64 P) ∧ w.cell? ⟨b, 1, none⟩ = some (.int .i64 M) ∧ w.cell? ⟨b, 2, none⟩ = some (.int .i64 F) ∧ w.cell? ⟨b, 3, none⟩ = some (.bool n) ∧ w.cell? ⟨b, 4, none⟩ = some (.slice A k c) ∧ w.cell? ⟨b, 5, none⟩ = some (.int .i64 E)
theorem RealAt.chg {w w' : World} {b P : Nat} {M F : Int} {n : Bool} {A : Option Addr} {k c : Nat} {E : Int} (h : RealAt w b P M F n A k c E) (hc : Chg No w w') : RealAt w' b P M F n A k c E := by
  have hb := World.block_lt_of_cell? _ _ h.1
  obtain ⟨h0, h1, h2, h3, h4, h5⟩ := h
  exact ⟨(hc.cell _ _ hb (fun f => f)).trans h0, (hc.cell _ _ hb (fun f => f)).trans h1, (hc.cell _ _ hb (fun f => f)).trans h2, (hc.cell _ _ hb (fun f => f)).trans h3, (hc.cell _ _ hb (fun f => f)).trans h4, (hc.cell _ _ hb (fun f => f)).trans h5⟩
end Go.Proofs.YtacfhndledcmgaaGreatDoor
