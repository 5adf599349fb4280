/- Lemmas for the law FnBackDecimal: laws.real, the listed variables. Conditions: those in each theorem; none besides. -/
import Derived.Test.YtacfhndledcmgaaGreatDoorK11
import Derived.Deep.RegionHeld3
import Derived.Test.YtacfhndledcmgaaGreatDoorK4
import Derived.Test.YtacfhndledcmgaaGreatDoorRows
import Derived.LaidMore
import Derived.LaidLaws
import Derived.Lib.LaidTab
import Derived.KernelRfl
set_option linter.unusedVariables false
set_option linter.unusedSimpArgs false
namespace Go.Proofs.YtacfhndledcmgaaGreatDoor
open Go.RowKit
theorem laws_real (B Mo P : Nat) (M F : Int) (n : Bool) (A : Option Addr) (c : Nat) (l : List Nat) (E : Int) (w : World) (hP : P < 18446744073709551616) (hB : B ≤ 1000) (hMo : Mo ≤ 2000) (hr : RdU w A l) (hm : ∀ x ∈ l, x < WB) (hc : l.length ≤ c) :
    Calls Tryz.prog 19 #[.agg #[.int .u64 P, .int .i64 M, .int .i64 F, .bool n, .slice A l.length c, .int .i64 E], .int .u64 B, .int .i64 Mo] w (RealOut B Mo P M F E l w) := by
  by_cases hbad : P = 0 ∨ B < P ∨ M < 0 ∨ 5 < M
  · exact laws_real_bad B Mo P M F n A c l E w hP hB hbad
  · by_cases hF : F = 1
    · subst hF
      by_cases hl : (P + 63) / 64 < l.length
      · exact laws_real_long B Mo P M n A c l E w (by omega) (by omega) (by omega) (by omega) hB hl
      · exact laws_real_fin B Mo P M n A c l E w (by omega) (by omega) (by omega) (by omega) hB hMo (by omega) hr hm hc
    · exact laws_real_form B Mo P M F n A c l E w (by omega) (by omega) (by omega) (by omega) hB hF
set_option maxRecDepth 100000 in
set_option maxHeartbeats 1000000 in
theorem zzFits1_big (P : Nat) (M F : Int) (n : Bool) (A : Option Addr) (k c : Nat) (E : Int) (w : World) (hk : 2147483647 < k) :
    Calls Tryz.prog 18 #[.agg #[.int .u64 P, .int .i64 M, .int .i64 F, .bool n, .slice A k c, .int .i64 E]] w fun e w' => e = .returned (.bool false) ∧ Chg No w w' := by
  have d1 : decide (2147483647 < (k : Int)) = true := decide_eq_true (by omega)
  have d2 : decide (2147483647 < k) = true := decide_eq_true (by omega)
  clear hk
  go_enter Tryz.func18, Tryz.ntmps18
  go_wp2_with fail
  go_ret
  exact ⟨rfl, (Chg.refl No w).alloc _⟩
/-- zzFits1, either way. -/
theorem zzFits1_any (P : Nat) (M F : Int) (n : Bool) (A : Option Addr) (k c : Nat) (E : Int) (w : World) :
    Calls Tryz.prog 18 #[.agg #[.int .u64 P, .int .i64 M, .int .i64 F, .bool n, .slice A k c, .int .i64 E]] w fun e w' => ∃ b, e = .returned (.bool b) ∧ Chg No w w' := by
  by_cases hk : k ≤ 2147483647
  · exact (zzFits1 P M F n A k c E w hk).mono fun _ _ ⟨h1, h2⟩ => ⟨_, h1, h2⟩
  · exact (zzFits1_big P M F n A k c E w (by omega)).mono fun _ _ ⟨h1, h2⟩ => ⟨_, h1, h2⟩
/-- The cells of a Real at one's own. -/
def RealAt (w : World) (b P : Nat) (M F : Int) (n : Bool) (A : Option Addr) (k c : Nat) (E : Int) : Prop := w.cell? ⟨b, 0, none⟩ = some (.int .u64 P) ∧ w.cell? ⟨b, 1, none⟩ = some (.int .i64 M) ∧ w.cell? ⟨b, 2, none⟩ = some (.int .i64 F) ∧ w.cell? ⟨b, 3, none⟩ = some (.bool n) ∧ w.cell? ⟨b, 4, none⟩ = some (.slice A k c) ∧ w.cell? ⟨b, 5, none⟩ = some (.int .i64 E)
theorem RealAt.chg {w w' : World} {b P : Nat} {M F : Int} {n : Bool} {A : Option Addr} {k c : Nat} {E : Int} (h : RealAt w b P M F n A k c E) (hc : Chg No w w') : RealAt w' b P M F n A k c E := by
  have hb := World.block_lt_of_cell? _ _ h.1
  obtain ⟨h0, h1, h2, h3, h4, h5⟩ := h
  exact ⟨(hc.cell _ _ hb (fun f => f)).trans h0, (hc.cell _ _ hb (fun f => f)).trans h1, (hc.cell _ _ hb (fun f => f)).trans h2, (hc.cell _ _ hb (fun f => f)).trans h3, (hc.cell _ _ hb (fun f => f)).trans h4, (hc.cell _ _ hb (fun f => f)).trans h5⟩
theorem lv_tail {P : Program} {W : World} {x : String × DataW Unit} {r : List (String × DataW Unit)} {ps : List MemPlace} (h : DataW.LaidVars P W (x :: r) ps) : ∃ q, DataW.LaidVars P W r q := by
  obtain ⟨n, d⟩ := x
  obtain ⟨g, t, cs, fuel, p, q, _, _, _, _, h, _⟩ := h
  exact ⟨q, h⟩
theorem lv_size {P : Program} {W : World} {n : String} {d : DataW Unit} {r : List (String × DataW Unit)} {ps : List MemPlace} {g : Nat} (hg : P.globalNamed n = some g) (h : DataW.LaidVars P W ((n, d) :: r) ps) : g < W.heap.size := by
  obtain ⟨g', t, cs, fuel, p, q, hg', _, hv, _⟩ := h
  obtain rfl := Option.some.inj (hg.symm.trans hg')
  unfold World.var? at hv
  rw [hg] at hv
  rcases Nat.lt_or_ge g W.heap.size with hlt | hge
  · exact hlt
  · simp [Array.getElem?_eq_none hge] at hv
theorem lv_int {P : Program} {W : World} {n : String} {k : IntKind} {z : Int} {r : List (String × DataW Unit)} {ps : List MemPlace} {g t : Nat} (hg : P.globalNamed n = some g) (hty : (P.globals[g]?).map (·.type) = some t) (ht : P.underlying t = some (.int k)) (h : DataW.LaidVars P W ((n, .lit (.int k z)) :: r) ps) : W.cell? ⟨g, 0, none⟩ = some (.int k z) := by
  obtain ⟨g', t', cs, fuel, p, q, hg', ht', hv, hd, _⟩ := h
  obtain rfl := Option.some.inj (hg.symm.trans hg')
  obtain rfl := Option.some.inj (hty.symm.trans ht')
  obtain ⟨z', e1, e2, _⟩ := DataW.trod_int ht hd
  simp only [Prod.mk.injEq, DataW.lit.injEq, Lit.int.injEq, true_and] at e2
  obtain ⟨rfl, _⟩ := e2
  have := World.var?_cell hg hv 0
  rw [Array.eq_one_of_toList e1] at this
  simpa using this
theorem lv_tab {P : Program} {W : World} {name : String} {k : IntKind} {zs : List Int} {rest : List (String × DataW Unit)} {ps : List MemPlace} {g t e : Nat} {n : Nat}
    (hg : P.globalNamed name = some g) (hty : (P.globals[g]?).map (·.type) = some t) (ht : P.underlying t = some (.array n e)) (he : P.underlying e = some (.int k)) (hce : P.cellsOf e = 1) (hct : P.cellsOf t = n)
    (h : DataW.LaidVars P W ((name, Lib.tabData k zs) :: rest) ps) : ∀ i, i < zs.length → W.cell? ⟨g, i, none⟩ = some (.int k (zs.getD i 0)) := by
  obtain ⟨g', t', cs, fuel, p, q, hg', ht', hvar, hd, _⟩ := h
  obtain rfl := Option.some.inj (hg.symm.trans hg')
  obtain rfl := Option.some.inj (hty.symm.trans ht')
  have hT : Lib.TabIs P W name k zs := by
    unfold Lib.TabIs
    rw [hvar, ← Lib.cells_of_tab ht he hce hct hd]
  exact fun i hi => hT.cell hg i hi
end Go.Proofs.YtacfhndledcmgaaGreatDoor
