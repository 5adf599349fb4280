/- Lemmas for the law FnBackDecimal: slices.Grow. Conditions: those in each theorem; none besides. -/
import Derived.Test.YtacfhndledcmgaaGreatDoorK6
set_option linter.unusedVariables false
set_option linter.unusedSimpArgs false
namespace Go.Proofs.YtacfhndledcmgaaGreatDoor
open Go.RowKit Go.Lib
/-- The cells of a slice of words, as a list. -/
theorem Ow.cells {w : World} {A : Option Addr} {l c : Nat} (hz : Ow w (.slice A l c)) : ∃ cs : List Value, cs.length = c ∧ (∀ a, A = some a → ∀ j v, cs[j]? = some v → w.cell? (a.add j) = some v) ∧ (∀ i, i < cs.toArray.size → ∃ v : Nat, v < WB ∧ cs.toArray[i]? = some (.int .u64 v)) ∧ (A = none → c = 0) ∧ l ≤ c := by
  rcases hz with h | ⟨b, o, n', c', h, hn⟩
  · cases h
    exact ⟨[], rfl, (fun a e => nomatch e), (fun i h => absurd h (by simp)), fun _ => rfl, Nat.le_refl _⟩
  · cases h
    have key : ∀ j, j < c → ((List.range c).map (fun i => Value.int .u64 (wd w b (o + i) : Nat)))[j]? = some (.int .u64 (wd w b (o + j) : Nat)) := fun j hj => by
      rw [List.getElem?_map, List.getElem?_range hj]; rfl
    refine ⟨(List.range c).map (fun i => .int .u64 (wd w b (o + i) : Nat)), by simp, fun a e j v hj => ?_, fun i h => ?_, (fun e => nomatch e), hn.le⟩
    · cases e
      have hjc : j < c := by
        rcases Nat.lt_or_ge j c with h | h
        · exact h
        · rw [List.getElem?_eq_none (by simp; exact h)] at hj; cases hj
      rw [key j hjc] at hj
      rw [show (⟨b, o, none⟩ : Addr).add j = ⟨b, o + j, none⟩ by unfold Addr.add; split <;> simp_all, ← hj]
      exact (hn.isW j hjc).cell
    · have hi : i < c := by simpa using h
      exact ⟨wd w b (o + i), (hn.isW i hi).lt, by rw [List.getElem?_toArray]; exact key i hi⟩
set_option maxHeartbeats 4000000 in
set_option maxRecDepth 100000 in
theorem grow85_new (A : Option Addr) (l c n : Nat) (w : World) (hz : Ow w (.slice A l c)) (hroom : c < l + n) (hb : l + n ≤ 100000) (h17 : 17 ≤ w.heap.size) :
    Calls Tryz.prog 233 #[.slice A l c, .int .i64 n] w fun e w' => ∃ c', e = .returned (.slice (some ⟨w.heap.size, 0, none⟩) l c') ∧ NW w' w.heap.size 0 l c' ∧ l + n ≤ c' ∧ Chg No w w' := by
  obtain ⟨ci, hi1, hi2, hi3, hi4⟩ := info_of info149
  obtain ⟨cs, hcl, hcs, hcw, hnil, hlc⟩ := hz.cells
  have hcl' : cs.length = c * ci.size := by rw [hi3, Nat.mul_one]; exact hcl
  have h1 : ¬ ((n : Int) < 0) := by omega
  have h2 : wrap64 ((c : Int) - (l : Int)) = (c : Int) - (l : Int) := by unfold wrap64; omega
  have h3 : wrap64 ((n : Int) - ((c : Int) - (l : Int))) = (n : Int) - ((c : Int) - (l : Int)) := by unfold wrap64; omega
  have h4 : (n : Int) - ((c : Int) - (l : Int)) > 0 := by omega
  have hck : c + (l + n - c) = l + n := by omega
  have hold : (Builtin.firstCells ci.size c (.slice A c c)).run Tryz.prog w.drew = .ok cs.toArray w.drew := by
    cases A with
    | none =>
      have h0 := hnil rfl
      subst h0
      have hc0 : cs = [] := List.length_eq_zero_iff.1 hcl
      rw [hc0]
      exact run_firstCells_none w.drew ci.size 0 0 0
    | some a => exact run_firstCells_some w.drew ci.size c a c c cs hcl' (fun j v hj => hcs a rfl j v hj)
  have hrz : ∀ ty, (Builtin.append_ #[85, 3] ty #[.slice A c c, .int .i64 ((n : Int) - ((c : Int) - (l : Int)))]).run Tryz.prog w =
      .ok (.slice (some ⟨w.heap.size, 0, none⟩) (l + n) (grownCap w (l + n) c 149)) (w.drew.alloc (.cells (cs.toArray ++ Builtin.zeroCells (Value.int .u64 0).cells (l + n - c) ++ Builtin.zeroCells (Value.int .u64 0).cells (grownCap w (l + n) c 149 - (l + n))) 149)) := fun ty => by
    have h := Lib.run_append_grow_zeros w 85 3 ty 149 ci (.int .u64 0) .i64 .i64 Tryz.underlying85 Tryz.underlying3 hi1 hi2 A c c cs hold (l + n - c) (by omega) (by rw [hi3]; decide) (by omega) (by omega)
      (by rw [hi4]; omega)
      (by rw [hck]; exact growslice_fits hroom (by rw [hi4]; omega))
    rw [hck] at h
    rw [show (n : Int) - ((c : Int) - (l : Int)) = ((l + n - c : Nat) : Int) by omega]
    exact h
  have hGn : l + n ≤ grownCap w (l + n) c 149 := grownCap_ge w _ _ _
  have hGm : grownCap w (l + n) c 149 ≤ maxLen := grownCap_le_maxLen w (l + n) c 149 (by unfold maxLen; omega)
  obtain ⟨G, hG⟩ : ∃ G, G = grownCap w (l + n) c 149 := ⟨_, rfl⟩
  rw [← hG] at hrz hGn hGm
  have hNW := NW.newWords (w := w) (cs := cs.toArray) (n := l + n - c) (k := G - (l + n)) (l := l) (G := G) hcw (by simp [hcl]; omega) (by omega) hGm h17
  have hCh : Chg No w (w.drew.alloc (.cells (cs.toArray ++ Builtin.zeroCells (Value.int .u64 0).cells (l + n - c) ++ Builtin.zeroCells (Value.int .u64 0).cells (G - (l + n))) 149)) := (Chg.refl No w).drew.alloc _
  have hG63 : G ≤ 9223372036854775807 := by unfold maxLen at hGm; omega
  have hcells : (Value.int IntKind.u64 0).cells = #[Value.int .u64 0] := rfl
  rw [hcells] at hrz hCh
  obtain ⟨wx, hwx⟩ : ∃ wx, wx = w.drew.alloc (.cells (cs.toArray ++ Builtin.zeroCells #[Value.int .u64 0] (l + n - c) ++ Builtin.zeroCells #[Value.int .u64 0] (G - (l + n))) 149) := ⟨_, rfl⟩
  rw [← hwx] at hrz hNW hCh
  have HN := hid hNW
  have HC := hid hCh
  have HM := hid hGm
  clear hwx hcells hold hck hG hcs hcl hcl' hcw hz hNW hCh hGm
  go_enter Tryz.func233, Tryz.ntmps233
  cases A with
  | none =>
    have h0 := hnil rfl
    subst h0
    obtain rfl : l = 0 := by omega
    go_wp2_with (at_builtin; refine Lib.wpList_append_run _ rfl _ _ _ _ rfl _ _ rfl rfl _ _ (hrz _) ?_)
    all_goals (go_ret; exact ⟨G, rfl, HN.out, by omega, HC.out⟩)
  | some a =>
    obtain ⟨ab, ao, asp⟩ := a
    go_wp2_with (at_builtin; refine Lib.wpList_append_run _ rfl _ _ _ _ rfl _ _ rfl rfl _ _ (hrz _) ?_)
    all_goals (go_ret; exact ⟨G, rfl, HN.out, by omega, HC.out⟩)
set_option maxHeartbeats 4000000 in
set_option maxRecDepth 100000 in
theorem grow84_new (A : Option Addr) (l c n : Nat) (w : World) (hz : Ow w (.slice A l c)) (hroom : c < l + n) (hb : l + n ≤ 100000) (h17 : 17 ≤ w.heap.size) :
    Calls Tryz.prog 272 #[.slice A l c, .int .i64 n] w fun e w' => ∃ c', e = .returned (.slice (some ⟨w.heap.size, 0, none⟩) l c') ∧ NW w' w.heap.size 0 l c' ∧ l + n ≤ c' ∧ Chg No w w' := by
  obtain ⟨ci, hi1, hi2, hi3, hi4⟩ := info_of info149
  obtain ⟨cs, hcl, hcs, hcw, hnil, hlc⟩ := hz.cells
  have hcl' : cs.length = c * ci.size := by rw [hi3, Nat.mul_one]; exact hcl
  have h1 : ¬ ((n : Int) < 0) := by omega
  have h2 : wrap64 ((c : Int) - (l : Int)) = (c : Int) - (l : Int) := by unfold wrap64; omega
  have h3 : wrap64 ((n : Int) - ((c : Int) - (l : Int))) = (n : Int) - ((c : Int) - (l : Int)) := by unfold wrap64; omega
  have h4 : (n : Int) - ((c : Int) - (l : Int)) > 0 := by omega
  have hck : c + (l + n - c) = l + n := by omega
  have hold : (Builtin.firstCells ci.size c (.slice A c c)).run Tryz.prog w.drew = .ok cs.toArray w.drew := by
    cases A with
    | none =>
      have h0 := hnil rfl
      subst h0
      have hc0 : cs = [] := List.length_eq_zero_iff.1 hcl
      rw [hc0]
      exact run_firstCells_none w.drew ci.size 0 0 0
    | some a => exact run_firstCells_some w.drew ci.size c a c c cs hcl' (fun j v hj => hcs a rfl j v hj)
  have hrz : ∀ ty, (Builtin.append_ #[84, 3] ty #[.slice A c c, .int .i64 ((n : Int) - ((c : Int) - (l : Int)))]).run Tryz.prog w =
      .ok (.slice (some ⟨w.heap.size, 0, none⟩) (l + n) (grownCap w (l + n) c 149)) (w.drew.alloc (.cells (cs.toArray ++ Builtin.zeroCells (Value.int .u64 0).cells (l + n - c) ++ Builtin.zeroCells (Value.int .u64 0).cells (grownCap w (l + n) c 149 - (l + n))) 149)) := fun ty => by
    have h := Lib.run_append_grow_zeros w 84 3 ty 149 ci (.int .u64 0) .i64 .i64 Tryz.underlying84 Tryz.underlying3 hi1 hi2 A c c cs hold (l + n - c) (by omega) (by rw [hi3]; decide) (by omega) (by omega)
      (by rw [hi4]; omega)
      (by rw [hck]; exact growslice_fits hroom (by rw [hi4]; omega))
    rw [hck] at h
    rw [show (n : Int) - ((c : Int) - (l : Int)) = ((l + n - c : Nat) : Int) by omega]
    exact h
  have hGn : l + n ≤ grownCap w (l + n) c 149 := grownCap_ge w _ _ _
  have hGm : grownCap w (l + n) c 149 ≤ maxLen := grownCap_le_maxLen w (l + n) c 149 (by unfold maxLen; omega)
  obtain ⟨G, hG⟩ : ∃ G, G = grownCap w (l + n) c 149 := ⟨_, rfl⟩
  rw [← hG] at hrz hGn hGm
  have hNW := NW.newWords (w := w) (cs := cs.toArray) (n := l + n - c) (k := G - (l + n)) (l := l) (G := G) hcw (by simp [hcl]; omega) (by omega) hGm h17
  have hCh : Chg No w (w.drew.alloc (.cells (cs.toArray ++ Builtin.zeroCells (Value.int .u64 0).cells (l + n - c) ++ Builtin.zeroCells (Value.int .u64 0).cells (G - (l + n))) 149)) := (Chg.refl No w).drew.alloc _
  have hG63 : G ≤ 9223372036854775807 := by unfold maxLen at hGm; omega
  have hcells : (Value.int IntKind.u64 0).cells = #[Value.int .u64 0] := rfl
  rw [hcells] at hrz hCh
  obtain ⟨wx, hwx⟩ : ∃ wx, wx = w.drew.alloc (.cells (cs.toArray ++ Builtin.zeroCells #[Value.int .u64 0] (l + n - c) ++ Builtin.zeroCells #[Value.int .u64 0] (G - (l + n))) 149) := ⟨_, rfl⟩
  rw [← hwx] at hrz hNW hCh
  have HN := hid hNW
  have HC := hid hCh
  have HM := hid hGm
  clear hwx hcells hold hck hG hcs hcl hcl' hcw hz hNW hCh hGm
  go_enter Tryz.func272, Tryz.ntmps272
  cases A with
  | none =>
    have h0 := hnil rfl
    subst h0
    obtain rfl : l = 0 := by omega
    go_wp2_with (at_builtin; refine Lib.wpList_append_run _ rfl _ _ _ _ rfl _ _ rfl rfl _ _ (hrz _) ?_)
    all_goals (go_ret; exact ⟨G, rfl, HN.out, by omega, HC.out⟩)
  | some a =>
    obtain ⟨ab, ao, asp⟩ := a
    go_wp2_with (at_builtin; refine Lib.wpList_append_run _ rfl _ _ _ _ rfl _ _ rfl rfl _ _ (hrz _) ?_)
    all_goals (go_ret; exact ⟨G, rfl, HN.out, by omega, HC.out⟩)
theorem grow84 (A : Option Addr) (l c n : Nat) (w : World) (hz : Ow w (.slice A l c)) (hn : 0 < n) (hb : l + n ≤ 100000) (h17 : 17 ≤ w.heap.size) :
    Calls Tryz.prog 272 #[.slice A l c, .int .i64 n] w fun e w' => ∃ b o c', e = .returned (.slice (some ⟨b, o, none⟩) l c') ∧ NW w' b o l c' ∧ l + n ≤ c' ∧ Chg No w w' ∧ ((A = some ⟨b, o, none⟩ ∧ c' = c) ∨ (w.heap.size ≤ b ∧ b < w'.heap.size)) := by
  by_cases hroom : l + n ≤ c
  · rcases hz with h | ⟨b, o, n', c', h, hw⟩
    · cases h; omega
    · cases h
      refine (grow84_room (some ⟨b, o, none⟩) l c n w hw.le hw.max (by unfold maxLen; omega) hroom).mono ?_
      rintro e w' ⟨rfl, rfl⟩
      exact ⟨b, o, c, rfl, hw, hroom, Chg.refl _ _, .inl ⟨rfl, rfl⟩⟩
  · refine (grow84_new A l c n w hz (by omega) hb h17).mono ?_
    rintro e w' ⟨c', rfl, h1, h2, h3⟩
    exact ⟨_, 0, c', rfl, h1, h2, h3, .inr ⟨Nat.le_refl _, h1.lt⟩⟩
theorem grow85 (A : Option Addr) (l c n : Nat) (w : World) (hz : Ow w (.slice A l c)) (hn : 0 < n) (hb : l + n ≤ 100000) (h17 : 17 ≤ w.heap.size) :
    Calls Tryz.prog 233 #[.slice A l c, .int .i64 n] w fun e w' => ∃ b o c', e = .returned (.slice (some ⟨b, o, none⟩) l c') ∧ NW w' b o l c' ∧ l + n ≤ c' ∧ Chg No w w' ∧ ((A = some ⟨b, o, none⟩ ∧ c' = c) ∨ (w.heap.size ≤ b ∧ b < w'.heap.size)) := by
  by_cases hroom : l + n ≤ c
  · rcases hz with h | ⟨b, o, n', c', h, hw⟩
    · cases h; omega
    · cases h
      refine (grow85_room (some ⟨b, o, none⟩) l c n w hw.le hw.max (by unfold maxLen; omega) hroom).mono ?_
      rintro e w' ⟨rfl, rfl⟩
      exact ⟨b, o, c, rfl, hw, hroom, Chg.refl _ _, .inl ⟨rfl, rfl⟩⟩
  · refine (grow85_new A l c n w hz (by omega) hb h17).mono ?_
    rintro e w' ⟨c', rfl, h1, h2, h3⟩
    exact ⟨_, 0, c', rfl, h1, h2, h3, .inr ⟨Nat.le_refl _, h1.lt⟩⟩
end Go.Proofs.YtacfhndledcmgaaGreatDoor
