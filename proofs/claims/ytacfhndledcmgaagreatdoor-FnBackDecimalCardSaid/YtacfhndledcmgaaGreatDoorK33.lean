/- Lemmas for the law FnBackDecimal: the listed variables of the row, io.EOF among them. Conditions: those in each theorem; none besides. -/
import Derived.Test.YtacfhndledcmgaaGreatDoorK30
import Derived.Test.YtacfhndledcmgaaGreatDoorK31
set_option linter.unusedVariables false
set_option linter.unusedSimpArgs false
namespace Go.Proofs.YtacfhndledcmgaaGreatDoor
open Go.RowKit
/-- The powers of 5 that the text lists. -/
def pow5list : List Nat := (List.range 28).map fun k => 5 ^ k
/-- THE PACKAGE-LEVEL VARIABLES, of what the rows that parse list, and io.EOF. -/
theorem glob_of_laid3 {W : World} (h : laidMetH Tryz.prog Rows.fnBackDecimalRow.laid W) : Glob W ∧ P5 W ∧ ∃ eo, W.cell? ⟨0, 0, none⟩ = some (.iface 245 (.pointer (some eo))) := by
  rw [MakeChecks.laidMetH_plain _ _ _ (by kernel_rfl)] at h
  obtain ⟨a0, s0, hv0, -, -, -⟩ := laid_sentinel (g := 0) (ti := 121) (tp := 245) (te := 247) (ts := 9) h.tail.tail.tail.tail.tail.tail (by kernel_rfl) (by kernel_rfl) Tryz.underlying121 rowE Tryz.underlying245 Tryz.underlying247 rfl rfl Tryz.underlying9 (by kernel_rfl) (by kernel_rfl)
  obtain ⟨ps, h1, _⟩ := h
  obtain ⟨_, h2⟩ := lv_tail h1
  obtain ⟨_, h3⟩ := lv_tail h2
  obtain ⟨_, h4⟩ := lv_tail h3
  obtain ⟨_, h5⟩ := lv_tail h4
  obtain ⟨_, h6⟩ := lv_tail h5
  obtain ⟨_, h7⟩ := lv_tail h6
  obtain ⟨_, h8⟩ := lv_tail h7
  obtain ⟨_, h9⟩ := lv_tail h8
  obtain ⟨_, h10⟩ := lv_tail h9
  obtain ⟨_, h11⟩ := lv_tail h10
  obtain ⟨_, h12⟩ := lv_tail h11
  obtain ⟨_, h13⟩ := lv_tail h12
  obtain ⟨_, h14⟩ := lv_tail h13
  obtain ⟨_, h15⟩ := lv_tail h14
  have c9 := lv_int (g := 9) (t := 3) (by kernel_rfl) (by kernel_rfl) Tryz.underlying3 h11
  have c6 := lv_int (g := 6) (t := 3) (by kernel_rfl) (by kernel_rfl) Tryz.underlying3 h12
  have c3 := lv_int (g := 3) (t := 3) (by kernel_rfl) (by kernel_rfl) Tryz.underlying3 h13
  have c4 := lv_int (g := 4) (t := 3) (by kernel_rfl) (by kernel_rfl) Tryz.underlying3 h14
  have c5 := lv_int (g := 5) (t := 3) (by kernel_rfl) (by kernel_rfl) Tryz.underlying3 h15
  have hs := lv_size (g := 16) (by kernel_rfl) h4
  have c13 := lv_tab (g := 13) (t := 330) (e := 5) (n := 64) (k := .u8) (zs := deB64.map fun n : Nat => (n : Int)) (by kernel_rfl) (by kernel_rfl) Tryz.underlying330 Tryz.underlying5 (by kernel_rfl) (by kernel_rfl) h2
  have c14 := lv_tab (g := 14) (t := 355) (e := 165) (n := 20) (k := .u64) (zs := pow10tab.map fun n : Nat => (n : Int)) (by kernel_rfl) (by kernel_rfl) Tryz.underlying355 Tryz.underlying165 (by kernel_rfl) (by kernel_rfl) h3
  have c7 := lv_tab (g := 7) (t := 290) (e := 165) (n := 28) (k := .u64) (zs := pow5list.map fun n : Nat => (n : Int)) (by kernel_rfl) (by kernel_rfl) Tryz.underlying290 Tryz.underlying165 (by kernel_rfl) (by kernel_rfl) h8
  have tab : ∀ (l : List Nat) (g : Nat) (k : IntKind), (∀ i, i < (l.map fun n : Nat => (n : Int)).length → W.cell? ⟨g, i, none⟩ = some (.int k ((l.map fun n : Nat => (n : Int)).getD i 0))) → ∀ o v, (l[o]?.map fun n : Nat => Value.int k n) = some v → W.cell? ⟨g, o, none⟩ = some v := by
    intro l g k hc o v e
    rcases Nat.lt_or_ge o l.length with hlt | hge
    · rw [List.getElem?_eq_getElem hlt] at e
      simp at e
      subst e
      rw [hc o (by simpa using hlt)]
      simp [List.getD, hlt]
    · rw [List.getElem?_eq_none hge] at e
      simp at e
  refine ⟨⟨hs, fun b o v e => ?_⟩, fun k hk => tab pow5list 7 .u64 c7 k _ (by
    have hk2 : k < 28 := by omega
    simp [pow5list, hk2]), a0, by simpa using World.var?_cell (by kernel_rfl) hv0 0⟩
  unfold gcell at e
  split at e
  · cases e; exact c3
  · cases e; exact c4
  · cases e; exact c5
  · cases e; exact c6
  · cases e; exact c9
  · exact tab _ _ _ c13 _ _ e
  · exact tab _ _ _ c14 _ _ e
  · cases e
end Go.Proofs.YtacfhndledcmgaaGreatDoor
