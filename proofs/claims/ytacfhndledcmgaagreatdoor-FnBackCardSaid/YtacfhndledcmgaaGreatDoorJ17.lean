/- Lemmas for the law FnBack: laws.number. Conditions: those in each theorem; none besides. -/
import Derived.Test.YtacfhndledcmgaaGreatDoorJ16
import Derived.Test.YtacfhndledcmgaaGreatDoorJ8
import Derived.Deep.RegionHeld3
set_option linter.unusedVariables false
set_option linter.unusedSimpArgs false
namespace Go.Proofs.YtacfhndledcmgaaGreatDoor
open Go.RowKit
set_option maxRecDepth 100000 in
set_option maxHeartbeats 2000000 in
theorem laws_real_odd (B Mo P : Nat) (M F : Int) (n : Bool) (A : Option Addr) (k c : Nat) (E : Int) (w : World) (hP : P < 18446744073709551616) (hB : B ≤ 1000) (h0 : F ≠ 0) (h1 : F ≠ 1) (h2 : F ≠ 2) :
    Calls Tryz.prog 19 #[.agg #[.int .u64 P, .int .i64 M, .int .i64 F, .bool n, .slice A k c, .int .i64 E], .int .u64 B, .int .i64 Mo] w fun e w' => e = .returned (.bool false) ∧ Chg No w w' := by
  have t0 : (F == 0) = false := beq_eq_false_iff_ne.2 h0
  have t1 : (F == 1) = false := beq_eq_false_iff_ne.2 h1
  have t1b : (F != 1) = true := by simp [bne, t1]
  have t2 : (F == 2) = false := beq_eq_false_iff_ne.2 h2
  clear h0 h1 h2
  by_cases h1 : P = 0
  · subst h1
    clear hP
    go_enter Tryz.func19, Tryz.ntmps19
    go_wp2_with fail
    go_ret
    exact ⟨rfl, (Chg.refl No w).alloc _⟩
  have d1 : decide ((P : Int) < 1) = false := decide_eq_false (by omega)
  have d1b : decide (P < 1) = false := decide_eq_false (by omega)
  have d1c : decide (P = 0) = false := decide_eq_false (by omega)
  by_cases h2 : B < P
  · have d2 : decide ((B : Int) < (P : Int)) = true := decide_eq_true (by omega)
    have d2b : decide (B < P) = true := decide_eq_true h2
    clear hP
    go_enter Tryz.func19, Tryz.ntmps19
    go_wp2_with fail
    go_ret
    exact ⟨rfl, (Chg.refl No w).alloc _⟩
  have d2 : decide ((B : Int) < (P : Int)) = false := decide_eq_false (by omega)
  have d2b : decide (B < P) = false := decide_eq_false h2
  by_cases h3 : M < 0
  · have d3 : decide (M < 0) = true := decide_eq_true h3
    clear hP
    go_enter Tryz.func19, Tryz.ntmps19
    go_wp2_with fail
    go_ret
    exact ⟨rfl, (Chg.refl No w).alloc _⟩
  have d3 : decide (M < 0) = false := decide_eq_false h3
  by_cases h4 : 5 < M
  · have d4 : decide (5 < M) = true := decide_eq_true h4
    clear hP
    go_enter Tryz.func19, Tryz.ntmps19
    go_wp2_with fail
    go_ret
    exact ⟨rfl, (Chg.refl No w).alloc _⟩
  have d4 : decide (5 < M) = false := decide_eq_false h4
  clear hP h1 h2 h3 h4
  go_enter Tryz.func19, Tryz.ntmps19
  go_wp2_with fail
  go_ret
  exact ⟨rfl, (Chg.refl No w).alloc _⟩
/-- What laws.number says. -/
def NumOut (P : Nat) (M F E : Int) (l : List Nat) (w : World) (e : Ending) (w' : World) : Prop := ∃ b, e = .returned (.bool b) ∧ (b = true → F = 0 ∨ (F = 1 ∧ RealOk 300 1000 P M E l)) ∧ Chg No w w'
set_option maxRecDepth 100000 in
set_option maxHeartbeats 2000000 in
theorem laws_number (P : Nat) (M F : Int) (n : Bool) (A : Option Addr) (c : Nat) (l : List Nat) (E : Int) (w : World) (hP : P < 18446744073709551616) (hr : RdU w A l) (hm : ∀ x ∈ l, x < WB) (hc : l.length ≤ c) :
    Calls Tryz.prog 25 #[.agg #[.int .u64 P, .int .i64 M, .int .i64 F, .bool n, .slice A l.length c, .int .i64 E]] w (NumOut P M F E l w) := by
  have k0 := (Chg.refl No w).alloc (.cells #[.int .u64 P, .int .i64 M, .int .i64 F, .bool n, .slice A l.length c, .int .i64 E] 43)
  have K0 := Lib.hid k0
  by_cases h2 : F = 2
  · have t2 : (F == 2) = true := by rw [h2]; rfl
    have t2b : (F != 2) = false := by simp [bne, t2]
    clear hP hr hm hc h2 k0
    go_enter Tryz.func25, Tryz.ntmps25
    go_wp2_with fail
    go_ret
    exact ⟨false, rfl, (fun h => by cases h), K0.out⟩
  · have t2 : (F == 2) = false := beq_eq_false_iff_ne.2 h2
    have t2b : (F != 2) = true := by simp [bne, t2]
    have key : Calls Tryz.prog 19 #[.agg #[.int .u64 P, .int .i64 M, .int .i64 F, .bool n, .slice A l.length c, .int .i64 E], .int .u64 300, .int .i64 1000] (w.alloc (.cells #[.int .u64 P, .int .i64 M, .int .i64 F, .bool n, .slice A l.length c, .int .i64 E] 43)) (NumOut P M F E l (w.alloc (.cells #[.int .u64 P, .int .i64 M, .int .i64 F, .bool n, .slice A l.length c, .int .i64 E] 43))) := by
      by_cases h0 : F = 0
      · refine (laws_real 300 1000 P M F n A c l E _ hP (by decide) (by decide) (hr.chg k0) hm hc).mono ?_
        rintro e w' ⟨b, h1, -, h3⟩
        exact ⟨b, h1, fun _ => .inl h0, h3⟩
      · by_cases h1 : F = 1
        · refine (laws_real 300 1000 P M F n A c l E _ hP (by decide) (by decide) (hr.chg k0) hm hc).mono ?_
          rintro e w' ⟨b, g1, g2, g3⟩
          exact ⟨b, g1, fun hb => .inr ⟨h1, g2 hb h1⟩, g3⟩
        · refine (laws_real_odd 300 1000 P M F n A l.length c E _ hP (by decide) h0 h1 h2).mono ?_
          rintro e w' ⟨rfl, g3⟩
          exact ⟨false, rfl, (fun h => by cases h), g3⟩
    have HK := Lib.hid key
    clear hP hr hm hc h2 k0 key
    go_enter Tryz.func25, Tryz.ntmps25
    go_wp2_with fail
    refine HK.out.mono ?_
    rintro e w1 ⟨b, rfl, hb, hk⟩
    have HB := Lib.hid hb
    have K1 := Lib.hid (K0.out.then hk (fun _ _ _ f => f))
    clear hb hk
    cases b
    · go_wp2_with fail
      go_ret
      exact ⟨false, rfl, (fun h => by cases h), K1.out⟩
    · go_wp2_with fail
      go_ret
      exact ⟨true, rfl, (fun _ => HB.out (by first | rfl | trivial)), K1.out⟩
end Go.Proofs.YtacfhndledcmgaaGreatDoor
