/- Lemmas for the law FnBack: the plain law of long division, slices.Grow, the stack, leading words. Conditions: those in each theorem; none besides. -/
import Derived.Test.YtacfhndledcmgaaGreatDoorJ2
import Derived.Defers
set_option linter.unusedVariables false
set_option linter.unusedSimpArgs false
namespace Go.Proofs.YtacfhndledcmgaaGreatDoor
/-! The plain law of long division, a figure at a time. -/
/-- A guess that passes the test of two figures of the divisor is at most one too great. -/
theorem dv_upper {qh V2 U3 V T P : Nat} (h : qh * V2 ≤ U3) (hq : qh ≤ V2 + 1) (hV : V < (V2 + 1) * P) (hT : U3 * P ≤ T) : (qh - 1) * V ≤ T := by
  cases qh with
  | zero => simp
  | succ k =>
    rw [Nat.add_sub_cancel]
    have h1 : k * V ≤ k * ((V2 + 1) * P) := Nat.mul_le_mul_left _ (Nat.le_of_lt hV)
    have h2 : k * (V2 + 1) ≤ (k + 1) * V2 := by rw [Nat.mul_add, Nat.add_mul]; omega
    have h3 : k * (V2 + 1) * P ≤ U3 * P := Nat.mul_le_mul_right _ (Nat.le_trans h2 h)
    rw [← Nat.mul_assoc] at h1
    omega
/-- The guess of the first figures is not too small. -/
theorem dv_first {U2 v1 V T P B : Nat} (hv : 0 < v1) (hV : v1 * B * P ≤ V) (hT : T < (U2 + 1) * B * P) : T < (U2 / v1 + 1) * V := by
  have h1 : U2 + 1 ≤ (U2 / v1 + 1) * v1 := by
    have := Nat.lt_div_mul_add hv (a := U2)
    rw [Nat.add_mul]; omega
  have h2 : (U2 + 1) * B * P ≤ (U2 / v1 + 1) * v1 * B * P := Nat.mul_le_mul_right _ (Nat.mul_le_mul_right _ h1)
  have h3 : (U2 / v1 + 1) * (v1 * B * P) ≤ (U2 / v1 + 1) * V := Nat.mul_le_mul_left _ hV
  have h4 : (U2 / v1 + 1) * v1 * B * P = (U2 / v1 + 1) * (v1 * B * P) := by simp [Nat.mul_assoc]
  omega
/-- A guess that fails the test is too great. -/
theorem dv_step {qh V2 U3 V T P : Nat} (h : U3 < qh * V2) (hV : V2 * P ≤ V) (hT : T < (U3 + 1) * P) : T < qh * V := by
  have h1 : (U3 + 1) * P ≤ qh * V2 * P := Nat.mul_le_mul_right _ h
  have h2 : qh * (V2 * P) ≤ qh * V := Nat.mul_le_mul_left _ hV
  rw [← Nat.mul_assoc] at h2
  omega
/-- Where the first figures are alike, the greatest figure is at most one too great. -/
theorem dv_same {v1 B P V T : Nat} (hv : B ≤ 2 * v1) (hV : V < (v1 + 1) * P) (hT : v1 * B * P ≤ T) : (B - 1 - 1) * V ≤ T := by
  have h1 : (B - 1 - 1) * V ≤ (B - 1 - 1) * ((v1 + 1) * P) := Nat.mul_le_mul_left _ (Nat.le_of_lt hV)
  have h2 : (B - 1 - 1) * (v1 + 1) ≤ v1 * B := by
    rcases Nat.lt_or_ge B 2 with hB | hB
    · have : B - 1 - 1 = 0 := by omega
      rw [this]; simp
    · obtain ⟨c, rfl⟩ : ∃ c, B = c + 2 := ⟨B - 2, by omega⟩
      have : c + 2 - 1 - 1 = c := by omega
      rw [this, Nat.mul_add, Nat.mul_add, Nat.mul_comm v1 c]; omega
  have h3 : (B - 1 - 1) * (v1 + 1) * P ≤ v1 * B * P := Nat.mul_le_mul_right _ h2
  rw [← Nat.mul_assoc] at h1
  omega
/-- The guess: q, or one more. -/
def Gs (T V qh : Nat) : Prop := T < (qh + 1) * V ∧ (qh - 1) * V ≤ T
/-- No borrow: the guess is right. -/
theorem Gs.right {T V qh A M : Nat} (h : Gs T V qh) (hs : A + qh * V = T + 0 * M) : T = qh * V + A ∧ A < V := by
  have := h.1
  rw [Nat.add_mul] at this
  omega
/-- A borrow: one less is right. -/
theorem Gs.less {T V qh A M A2 e : Nat} (h : Gs T V qh) (hs : A + qh * V = T + 1 * M) (hA : A < M) (h2 : A2 + e * M = A + V) (hA2 : A2 < M) (hV : V ≤ M) : 0 < qh ∧ T = (qh - 1) * V + A2 ∧ A2 < V := by
  obtain ⟨g1, g2⟩ := h
  cases qh with
  | zero => simp at hs; omega
  | succ k =>
    rw [Nat.add_sub_cancel] at g2 ⊢
    rw [Nat.add_mul k 1 V, Nat.one_mul] at hs
    have e1 : e = 1 := by
      rcases Nat.lt_or_ge e 1 with h | h
      · have : e = 0 := by omega
        subst this; omega
      rcases Nat.lt_or_ge 1 e with h' | h'
      · have : 2 * M ≤ e * M := Nat.mul_le_mul_right _ h'
        omega
      · omega
    subst e1
    omega
open Go.RowKit Go.Lib
/-- The cells of a slice of words, as a list. -/
theorem Ow.cells {w : World} {A : Option Addr} {l c : Nat} (hz : Ow w (.slice A l c)) : ∃ cs : List Value, cs.length = c ∧ (∀ a, A = some a → ∀ j v, cs[j]? = some v → w.cell? (a.add j) = some v) ∧ (∀ i, i < cs.toArray.size → ∃ v : Nat, v < WB ∧ cs.toArray[i]? = some (.int .u64 v)) ∧ (A = none → c = 0) ∧ l ≤ c := by
  rcases hz with h | ⟨b, o, n', c', h, hn⟩
  · cases h
    exact ⟨[], rfl, (fun a e => nomatch e), (fun i h => absurd h (by simp)), fun _ => rfl, Nat.le_refl _⟩
  · cases h
    have key : ∀ j, j < c → ((List.range c).map (fun i => Value.int .u64 (wd w b (o + i) : Nat)))[j]? = some (.int .u64 (wd w b (o + j) : Nat)) := fun j hj => by
      rw [List.getElem?_map, List.getElem?_range hj]; rfl
    refine ⟨(List.range c).map (fun i => .int .u64 (wd w b (o + i) : Nat)), by simp, fun a e j v hj => ?_, fun i h => ?_, (fun e => nomatch e), hn.le⟩
    · cases e
      have hjc : j < c := by
        rcases Nat.lt_or_ge j c with h | h
        · exact h
        · rw [List.getElem?_eq_none (by simp; exact h)] at hj; cases hj
      rw [key j hjc] at hj
      rw [show (⟨b, o, none⟩ : Addr).add j = ⟨b, o + j, none⟩ by unfold Addr.add; split <;> simp_all, ← hj]
      exact (hn.isW j hjc).cell
    · have hi : i < c := by simpa using h
      exact ⟨wd w b (o + i), (hn.isW i hi).lt, by rw [List.getElem?_toArray]; exact key i hi⟩
set_option maxHeartbeats 4000000 in
set_option maxRecDepth 100000 in
theorem grow85_new (A : Option Addr) (l c n : Nat) (w : World) (hz : Ow w (.slice A l c)) (hroom : c < l + n) (hb : l + n ≤ 100000) (h17 : 17 ≤ w.heap.size) :
    Calls Tryz.prog 233 #[.slice A l c, .int .i64 n] w fun e w' => ∃ c', e = .returned (.slice (some ⟨w.heap.size, 0, none⟩) l c') ∧ NW w' w.heap.size 0 l c' ∧ l + n ≤ c' ∧ Chg No w w' := by
  obtain ⟨ci, hi1, hi2, hi3, hi4⟩ := info_of info149
  obtain ⟨cs, hcl, hcs, hcw, hnil, hlc⟩ := hz.cells
  have hcl' : cs.length = c * ci.size := by rw [hi3, Nat.mul_one]; exact hcl
  have h1 : ¬ ((n : Int) < 0) := by omega
  have h2 : wrap64 ((c : Int) - (l : Int)) = (c : Int) - (l : Int) := by unfold wrap64; omega
  have h3 : wrap64 ((n : Int) - ((c : Int) - (l : Int))) = (n : Int) - ((c : Int) - (l : Int)) := by unfold wrap64; omega
  have h4 : (n : Int) - ((c : Int) - (l : Int)) > 0 := by omega
  have hck : c + (l + n - c) = l + n := by omega
  have hold : (Builtin.firstCells ci.size c (.slice A c c)).run Tryz.prog w.drew = .ok cs.toArray w.drew := by
    cases A with
    | none =>
      have h0 := hnil rfl
      subst h0
      have hc0 : cs = [] := List.length_eq_zero_iff.1 hcl
      rw [hc0]
      exact run_firstCells_none w.drew ci.size 0 0 0
    | some a => exact run_firstCells_some w.drew ci.size c a c c cs hcl' (fun j v hj => hcs a rfl j v hj)
  have hrz : ∀ ty, (Builtin.append_ #[85, 3] ty #[.slice A c c, .int .i64 ((n : Int) - ((c : Int) - (l : Int)))]).run Tryz.prog w =
      .ok (.slice (some ⟨w.heap.size, 0, none⟩) (l + n) (grownCap w (l + n) c 149)) (w.drew.alloc (.cells (cs.toArray ++ Builtin.zeroCells (Value.int .u64 0).cells (l + n - c) ++ Builtin.zeroCells (Value.int .u64 0).cells (grownCap w (l + n) c 149 - (l + n))) 149)) := fun ty => by
    have h := Lib.run_append_grow_zeros w 85 3 ty 149 ci (.int .u64 0) .i64 .i64 Tryz.underlying85 Tryz.underlying3 hi1 hi2 A c c cs hold (l + n - c) (by omega) (by rw [hi3]; decide) (by omega) (by omega)
      (by rw [hi4]; omega)
      (by rw [hck]; exact growslice_fits hroom (by rw [hi4]; omega))
    rw [hck] at h
    rw [show (n : Int) - ((c : Int) - (l : Int)) = ((l + n - c : Nat) : Int) by omega]
    exact h
  have hGn : l + n ≤ grownCap w (l + n) c 149 := grownCap_ge w _ _ _
  have hGm : grownCap w (l + n) c 149 ≤ maxLen := grownCap_le_maxLen w (l + n) c 149 (by unfold maxLen; omega)
  obtain ⟨G, hG⟩ : ∃ G, G = grownCap w (l + n) c 149 := ⟨_, rfl⟩
  rw [← hG] at hrz hGn hGm
  have hNW := NW.newWords (w := w) (cs := cs.toArray) (n := l + n - c) (k := G - (l + n)) (l := l) (G := G) hcw (by simp [hcl]; omega) (by omega) hGm h17
  have hCh : Chg No w (w.drew.alloc (.cells (cs.toArray ++ Builtin.zeroCells (Value.int .u64 0).cells (l + n - c) ++ Builtin.zeroCells (Value.int .u64 0).cells (G - (l + n))) 149)) := (Chg.refl No w).drew.alloc _
  have hG63 : G ≤ 9223372036854775807 := by unfold maxLen at hGm; omega
  have hcells : (Value.int IntKind.u64 0).cells = #[Value.int .u64 0] := rfl
  rw [hcells] at hrz hCh
  obtain ⟨wx, hwx⟩ : ∃ wx, wx = w.drew.alloc (.cells (cs.toArray ++ Builtin.zeroCells #[Value.int .u64 0] (l + n - c) ++ Builtin.zeroCells #[Value.int .u64 0] (G - (l + n))) 149) := ⟨_, rfl⟩
  rw [← hwx] at hrz hNW hCh
  have HN := hid hNW
  have HC := hid hCh
  have HM := hid hGm
  clear hwx hcells hold hck hG hcs hcl hcl' hcw hz hNW hCh hGm
  go_enter Tryz.func233, Tryz.ntmps233
  cases A with
  | none =>
    have h0 := hnil rfl
    subst h0
    obtain rfl : l = 0 := by omega
    go_wp2_with (at_builtin; refine Lib.wpList_append_run _ rfl _ _ _ _ rfl _ _ rfl rfl _ _ (hrz _) ?_)
    all_goals (go_ret; exact ⟨G, rfl, HN.out, by omega, HC.out⟩)
  | some a =>
    obtain ⟨ab, ao, asp⟩ := a
    go_wp2_with (at_builtin; refine Lib.wpList_append_run _ rfl _ _ _ _ rfl _ _ rfl rfl _ _ (hrz _) ?_)
    all_goals (go_ret; exact ⟨G, rfl, HN.out, by omega, HC.out⟩)
set_option maxHeartbeats 4000000 in
set_option maxRecDepth 100000 in
theorem grow84_new (A : Option Addr) (l c n : Nat) (w : World) (hz : Ow w (.slice A l c)) (hroom : c < l + n) (hb : l + n ≤ 100000) (h17 : 17 ≤ w.heap.size) :
    Calls Tryz.prog 272 #[.slice A l c, .int .i64 n] w fun e w' => ∃ c', e = .returned (.slice (some ⟨w.heap.size, 0, none⟩) l c') ∧ NW w' w.heap.size 0 l c' ∧ l + n ≤ c' ∧ Chg No w w' := by
  obtain ⟨ci, hi1, hi2, hi3, hi4⟩ := info_of info149
  obtain ⟨cs, hcl, hcs, hcw, hnil, hlc⟩ := hz.cells
  have hcl' : cs.length = c * ci.size := by rw [hi3, Nat.mul_one]; exact hcl
  have h1 : ¬ ((n : Int) < 0) := by omega
  have h2 : wrap64 ((c : Int) - (l : Int)) = (c : Int) - (l : Int) := by unfold wrap64; omega
  have h3 : wrap64 ((n : Int) - ((c : Int) - (l : Int))) = (n : Int) - ((c : Int) - (l : Int)) := by unfold wrap64; omega
  have h4 : (n : Int) - ((c : Int) - (l : Int)) > 0 := by omega
  have hck : c + (l + n - c) = l + n := by omega
  have hold : (Builtin.firstCells ci.size c (.slice A c c)).run Tryz.prog w.drew = .ok cs.toArray w.drew := by
    cases A with
    | none =>
      have h0 := hnil rfl
      subst h0
      have hc0 : cs = [] := List.length_eq_zero_iff.1 hcl
      rw [hc0]
      exact run_firstCells_none w.drew ci.size 0 0 0
    | some a => exact run_firstCells_some w.drew ci.size c a c c cs hcl' (fun j v hj => hcs a rfl j v hj)
  have hrz : ∀ ty, (Builtin.append_ #[84, 3] ty #[.slice A c c, .int .i64 ((n : Int) - ((c : Int) - (l : Int)))]).run Tryz.prog w =
      .ok (.slice (some ⟨w.heap.size, 0, none⟩) (l + n) (grownCap w (l + n) c 149)) (w.drew.alloc (.cells (cs.toArray ++ Builtin.zeroCells (Value.int .u64 0).cells (l + n - c) ++ Builtin.zeroCells (Value.int .u64 0).cells (grownCap w (l + n) c 149 - (l + n))) 149)) := fun ty => by
    have h := Lib.run_append_grow_zeros w 84 3 ty 149 ci (.int .u64 0) .i64 .i64 Tryz.underlying84 Tryz.underlying3 hi1 hi2 A c c cs hold (l + n - c) (by omega) (by rw [hi3]; decide) (by omega) (by omega)
      (by rw [hi4]; omega)
      (by rw [hck]; exact growslice_fits hroom (by rw [hi4]; omega))
    rw [hck] at h
    rw [show (n : Int) - ((c : Int) - (l : Int)) = ((l + n - c : Nat) : Int) by omega]
    exact h
  have hGn : l + n ≤ grownCap w (l + n) c 149 := grownCap_ge w _ _ _
  have hGm : grownCap w (l + n) c 149 ≤ maxLen := grownCap_le_maxLen w (l + n) c 149 (by unfold maxLen; omega)
  obtain ⟨G, hG⟩ : ∃ G, G = grownCap w (l + n) c 149 := ⟨_, rfl⟩
  rw [← hG] at hrz hGn hGm
  have hNW := NW.newWords (w := w) (cs := cs.toArray) (n := l + n - c) (k := G - (l + n)) (l := l) (G := G) hcw (by simp [hcl]; omega) (by omega) hGm h17
  have hCh : Chg No w (w.drew.alloc (.cells (cs.toArray ++ Builtin.zeroCells (Value.int .u64 0).cells (l + n - c) ++ Builtin.zeroCells (Value.int .u64 0).cells (G - (l + n))) 149)) := (Chg.refl No w).drew.alloc _
  have hG63 : G ≤ 9223372036854775807 := by unfold maxLen at hGm; omega
  have hcells : (Value.int IntKind.u64 0).cells = #[Value.int .u64 0] := rfl
  rw [hcells] at hrz hCh
  obtain ⟨wx, hwx⟩ : ∃ wx, wx = w.drew.alloc (.cells (cs.toArray ++ Builtin.zeroCells #[Value.int .u64 0] (l + n - c) ++ Builtin.zeroCells #[Value.int .u64 0] (G - (l + n))) 149) := ⟨_, rfl⟩
  rw [← hwx] at hrz hNW hCh
  have HN := hid hNW
  have HC := hid hCh
  have HM := hid hGm
  clear hwx hcells hold hck hG hcs hcl hcl' hcw hz hNW hCh hGm
  go_enter Tryz.func272, Tryz.ntmps272
  cases A with
  | none =>
    have h0 := hnil rfl
    subst h0
    obtain rfl : l = 0 := by omega
    go_wp2_with (at_builtin; refine Lib.wpList_append_run _ rfl _ _ _ _ rfl _ _ rfl rfl _ _ (hrz _) ?_)
    all_goals (go_ret; exact ⟨G, rfl, HN.out, by omega, HC.out⟩)
  | some a =>
    obtain ⟨ab, ao, asp⟩ := a
    go_wp2_with (at_builtin; refine Lib.wpList_append_run _ rfl _ _ _ _ rfl _ _ rfl rfl _ _ (hrz _) ?_)
    all_goals (go_ret; exact ⟨G, rfl, HN.out, by omega, HC.out⟩)
theorem grow84 (A : Option Addr) (l c n : Nat) (w : World) (hz : Ow w (.slice A l c)) (hn : 0 < n) (hb : l + n ≤ 100000) (h17 : 17 ≤ w.heap.size) :
    Calls Tryz.prog 272 #[.slice A l c, .int .i64 n] w fun e w' => ∃ b o c', e = .returned (.slice (some ⟨b, o, none⟩) l c') ∧ NW w' b o l c' ∧ l + n ≤ c' ∧ Chg No w w' ∧ ((A = some ⟨b, o, none⟩ ∧ c' = c) ∨ (w.heap.size ≤ b ∧ b < w'.heap.size)) := by
  by_cases hroom : l + n ≤ c
  · rcases hz with h | ⟨b, o, n', c', h, hw⟩
    · cases h; omega
    · cases h
      refine (grow84_room (some ⟨b, o, none⟩) l c n w hw.le hw.max (by unfold maxLen; omega) hroom).mono ?_
      rintro e w' ⟨rfl, rfl⟩
      exact ⟨b, o, c, rfl, hw, hroom, Chg.refl _ _, .inl ⟨rfl, rfl⟩⟩
  · refine (grow84_new A l c n w hz (by omega) hb h17).mono ?_
    rintro e w' ⟨c', rfl, h1, h2, h3⟩
    exact ⟨_, 0, c', rfl, h1, h2, h3, .inr ⟨Nat.le_refl _, h1.lt⟩⟩
theorem grow85 (A : Option Addr) (l c n : Nat) (w : World) (hz : Ow w (.slice A l c)) (hn : 0 < n) (hb : l + n ≤ 100000) (h17 : 17 ≤ w.heap.size) :
    Calls Tryz.prog 233 #[.slice A l c, .int .i64 n] w fun e w' => ∃ b o c', e = .returned (.slice (some ⟨b, o, none⟩) l c') ∧ NW w' b o l c' ∧ l + n ≤ c' ∧ Chg No w w' ∧ ((A = some ⟨b, o, none⟩ ∧ c' = c) ∨ (w.heap.size ≤ b ∧ b < w'.heap.size)) := by
  by_cases hroom : l + n ≤ c
  · rcases hz with h | ⟨b, o, n', c', h, hw⟩
    · cases h; omega
    · cases h
      refine (grow85_room (some ⟨b, o, none⟩) l c n w hw.le hw.max (by unfold maxLen; omega) hroom).mono ?_
      rintro e w' ⟨rfl, rfl⟩
      exact ⟨b, o, c, rfl, hw, hroom, Chg.refl _ _, .inl ⟨rfl, rfl⟩⟩
  · refine (grow85_new A l c n w hz (by omega) hb h17).mono ?_
    rintro e w' ⟨c', rfl, h1, h2, h3⟩
    exact ⟨_, 0, c', rfl, h1, h2, h3, .inr ⟨Nat.le_refl _, h1.lt⟩⟩
open Go.RowKit
/-- The places of a slice from its length on. -/
def Beyond : Option Addr → Nat → Nat → Nat → Nat → Prop
  | some a, n, c => fun x o => x = a.block ∧ a.off + n ≤ o ∧ o < a.off + c
  | none, _, _ => No
/-- A stack in memory: nothing yet, or a block i that holds a slice of words. -/
def Sk (w : World) (s : Nat) : Option (Nat × Option Addr × Nat × Nat) → Prop
  | none => 17 ≤ s ∧ Plain w s ∧ w.cell? ⟨s, 0, none⟩ = some (.pointer none)
  | some (i, A, n, c) => 17 ≤ s ∧ Plain w s ∧ w.cell? ⟨s, 0, none⟩ = some (.pointer (some ⟨i, 0, none⟩)) ∧ 17 ≤ i ∧ i ≠ s ∧ Plain w i ∧ w.cell? ⟨i, 0, none⟩ = some (.slice A n c) ∧ Ow w (.slice A n c) ∧ ∀ x o, Fp (.slice A 0 c) x o → x ≠ s ∧ x ≠ i
def skLen : Option (Nat × Option Addr × Nat × Nat) → Nat
  | none => 0
  | some (_, _, n, _) => n
def skCut (k : Nat) : Option (Nat × Option Addr × Nat × Nat) → Option (Nat × Option Addr × Nat × Nat)
  | none => none
  | some (i, A, _, c) => some (i, A, k, c)
/-- Its blocks of cells. -/
def SkC (s : Nat) : Option (Nat × Option Addr × Nat × Nat) → Nat → Prop
  | none => fun x => x = s
  | some (i, _, _, _) => fun x => x = s ∨ x = i
/-- All its places. -/
def SkF (s : Nat) : Option (Nat × Option Addr × Nat × Nat) → Nat → Nat → Prop
  | none => fun x _ => x = s
  | some (i, A, _, c) => fun x o => x = s ∨ x = i ∨ Fp (.slice A 0 c) x o
/-- The places that it may still hand out, and its cells. -/
def SkT (s : Nat) : Option (Nat × Option Addr × Nat × Nat) → Nat → Nat → Prop
  | none => fun x _ => x = s
  | some (i, A, n, c) => fun x o => x = s ∨ x = i ∨ Beyond A n c x o
/-- The same stack later on: from block m on all is new. -/
def SkR (m : Nat) : Option (Nat × Option Addr × Nat × Nat) → Option (Nat × Option Addr × Nat × Nat) → Prop
  | none, none => True
  | none, some (i, A, _, c) => m ≤ i ∧ ∀ x o, Fp (.slice A 0 c) x o → m ≤ x
  | some (i, A, _, c), some (i', A', _, c') => i = i' ∧ ((A = A' ∧ c = c') ∨ ∀ x o, Fp (.slice A' 0 c') x o → m ≤ x)
  | some _, none => False
theorem SkR.refl (m : Nat) (st : Option (Nat × Option Addr × Nat × Nat)) : SkR m st st := by
  match st with
  | none => trivial
  | some (i, A, n, c) => exact ⟨rfl, .inl ⟨rfl, rfl⟩⟩
theorem SkR.trans {m m' : Nat} {s1 s2 s3 : Option (Nat × Option Addr × Nat × Nat)} (h : SkR m s1 s2) (k : SkR m' s2 s3) (hm : m ≤ m') : SkR m s1 s3 := by
  match s1, s2, s3, h, k with
  | none, none, none, _, _ => trivial
  | none, none, some (i, A, _, _), _, k => exact ⟨Nat.le_trans hm k.1, fun x o e => Nat.le_trans hm (k.2 x o e)⟩
  | none, some (i, A, _, c), some (i', A', _, c'), h, k =>
    obtain ⟨rfl, k2⟩ := k
    refine ⟨h.1, fun x o e => ?_⟩
    rcases k2 with ⟨rfl, rfl⟩ | k2
    · exact h.2 x o e
    · exact Nat.le_trans hm (k2 x o e)
  | some (i, A, _, c), some (i', A', _, c'), some (i'', A'', _, c''), h, k =>
    obtain ⟨rfl, h2⟩ := h
    obtain ⟨rfl, k2⟩ := k
    refine ⟨rfl, ?_⟩
    rcases k2 with ⟨rfl, rfl⟩ | k2
    · exact h2
    · exact .inr fun x o e => Nat.le_trans hm (k2 x o e)
theorem SkR.cut {m : Nat} {s1 s2 : Option (Nat × Option Addr × Nat × Nat)} (h : SkR m s1 s2) (k : Nat) : SkR m s1 (skCut k s2) := by
  match s1, s2, h with
  | none, none, _ => trivial
  | none, some (i, A, _, _), h => exact h
  | some (i, A, _, c), some (i', A', _, c'), h => exact h
theorem SkR.f {m s : Nat} {s1 s2 : Option (Nat × Option Addr × Nat × Nat)} (h : SkR m s1 s2) {x o : Nat} (hx : SkF s s2 x o) : SkF s s1 x o ∨ m ≤ x := by
  match s1, s2, h, hx with
  | none, none, _, hx => exact .inl hx
  | none, some (i, A, n, c), h, hx =>
    rcases hx with hx | hx | hx
    · exact .inl hx
    · exact .inr (hx ▸ h.1)
    · exact .inr (h.2 x o hx)
  | some (i, A, n, c), some (i', A', n', c'), h, hx =>
    obtain ⟨rfl, h2⟩ := h
    rcases hx with hx | hx | hx
    · exact .inl (.inl hx)
    · exact .inl (.inr (.inl hx))
    · rcases h2 with ⟨rfl, rfl⟩ | h2
      · exact .inl (.inr (.inr hx))
      · exact .inr (h2 x o hx)
theorem Beyond.fp {A : Option Addr} {n c x o : Nat} (h : Beyond A n c x o) : Fp (.slice A 0 c) x o := by
  match A, h with
  | some a, h => exact ⟨h.1, by have := h.2.1; omega, by have := h.2.2; omega⟩
theorem Beyond.le {A : Option Addr} {n m c x o : Nat} (h : Beyond A n c x o) (hm : m ≤ n) : Beyond A m c x o := by
  match A, h with
  | some a, h => exact ⟨h.1, by have := h.2.1; omega, by have := h.2.2; omega⟩
theorem SkT.f {s : Nat} {st : Option (Nat × Option Addr × Nat × Nat)} {x o : Nat} (h : SkT s st x o) : SkF s st x o := by
  match st, h with
  | none, h => exact h
  | some (i, A, n, c), h => exact h.imp id (fun h => h.imp id Beyond.fp)
theorem SkC.f {s : Nat} {st : Option (Nat × Option Addr × Nat × Nat)} {x : Nat} (h : SkC s st x) (o : Nat) : SkF s st x o := by
  match st, h with
  | none, h => exact h
  | some (i, A, n, c), h => exact h.imp id .inl
theorem SkC.t {s : Nat} {st : Option (Nat × Option Addr × Nat × Nat)} {x : Nat} (h : SkC s st x) (o : Nat) : SkT s st x o := by
  match st, h with
  | none, h => exact h
  | some (i, A, n, c), h => exact h.imp id .inl
theorem SkR.t {m s : Nat} {s1 s2 : Option (Nat × Option Addr × Nat × Nat)} (h : SkR m s1 s2) (hl : skLen s1 ≤ skLen s2) {x o : Nat} (hx : SkT s s2 x o) : SkT s s1 x o ∨ m ≤ x := by
  match s1, s2, h, hl, hx with
  | none, none, _, _, hx => exact .inl hx
  | none, some (i, A, n, c), h, _, hx =>
    rcases hx with hx | hx | hx
    · exact .inl hx
    · exact .inr (hx ▸ h.1)
    · exact .inr (h.2 x o hx.fp)
  | some (i, A, n, c), some (i', A', n', c'), h, hl, hx =>
    obtain ⟨rfl, h2⟩ := h
    rcases hx with hx | hx | hx
    · exact .inl (.inl hx)
    · exact .inl (.inr (.inl hx))
    · rcases h2 with ⟨rfl, rfl⟩ | h2
      · exact .inl (.inr (.inr (hx.le hl)))
      · exact .inr (h2 x o hx.fp)
theorem Sk.chg {S : Nat → Nat → Prop} {w w' : World} {s : Nat} {st : Option (Nat × Option Addr × Nat × Nat)} (h : Sk w s st) (hc : Chg S w w') (hS : ∀ x o, SkC s st x → ¬ S x o) : Sk w' s st := by
  match st, h with
  | none, h =>
    obtain ⟨h1, h2, h3⟩ := h
    exact ⟨h1, hc.plain _ h2, (hc.cell _ _ h2.lt (hS _ _ rfl)).trans h3⟩
  | some (i, A, n, c), h =>
    obtain ⟨h1, h2, h3, h4, h5, h6, h7, h8, h9⟩ := h
    exact ⟨h1, hc.plain _ h2, (hc.cell _ _ h2.lt (hS _ _ (.inl rfl))).trans h3, h4, h5, hc.plain _ h6, (hc.cell _ _ h6.lt (hS _ _ (.inr rfl))).trans h7, h8.chg hc, h9⟩
theorem Sk.lt {w : World} {s : Nat} {st : Option (Nat × Option Addr × Nat × Nat)} (h : Sk w s st) {x o : Nat} (hx : SkF s st x o) : x < w.heap.size ∧ 17 ≤ x := by
  match st, h, hx with
  | none, h, hx => obtain rfl : x = s := hx; exact ⟨h.2.1.lt, h.1⟩
  | some (i, A, n, c), h, hx =>
    obtain ⟨h1, h2, h3, h4, h5, h6, h7, h8, h9⟩ := h
    rcases hx with rfl | rfl | hx
    · exact ⟨h2.lt, h1⟩
    · exact ⟨h6.lt, h4⟩
    · have hx' : Fp (.slice A n c) x o := by match A, hx with | some a, hx => exact hx
      exact ⟨hx'.lt h8, hx'.own h8⟩
set_option maxHeartbeats 1000000 in
theorem stk_save (s : Nat) (st : Option (Nat × Option Addr × Nat × Nat)) (w : World) (h : Sk w s st) : Calls Tryz.prog 168 #[.pointer (some ⟨s, 0, none⟩)] w fun e w' => e = .returned (.int .i64 (skLen st : Nat)) ∧ w = w' := by
  match st, h with
  | none, h =>
    obtain ⟨h1, h2, h3⟩ := h
    go_enter Tryz.func168, Tryz.ntmps168
    go_wp2_with fail
    go_ret
    exact ⟨rfl, rfl⟩
  | some (i, A, n, c), h =>
    obtain ⟨h1, h2, h3, h4, h5, h6, h7, h8, h9⟩ := h
    have hin : Calls Tryz.prog 232 #[.pointer (some ⟨i, 0, none⟩)] w fun e w' => e = .returned (.int .i64 (n : Nat)) ∧ w = w' := by
      rcases h8 with e | ⟨b, o, n', c', e, hn⟩
      all_goals
        cases e
        go_enter Tryz.func232, Tryz.ntmps232
        go_wp2_with fail
        go_ret
        exact ⟨rfl, rfl⟩
    have HI := Lib.hid hin
    clear hin h7 h8 h9
    go_enter Tryz.func168, Tryz.ntmps168
    go_wp2_with fail
    refine HI.out.mono ?_
    rintro e w1 ⟨rfl, rfl⟩
    go_wp2_with fail
    go_ret
    exact ⟨rfl, rfl⟩
/-- A slice stored in a cell that held one. -/
theorem cell_sl {w : World} {i : Nat} {A : Option Addr} {n c : Nat} (h : w.cell? ⟨i, 0, none⟩ = some (.slice A n c)) (v : Value) : Chg (Blk i) w (w.setCell ⟨i, 0, none⟩ v) :=
  (Chg.refl (Blk i) w).setO v h (by simp) (by simp) (fun _ => rfl)
set_option maxHeartbeats 1000000 in
theorem stk_restore_d (s k : Nat) (st : Option (Nat × Option Addr × Nat × Nat)) (w : World) (u : FrameMode) (h : Sk w s st) (hk : k ≤ skLen st) :
    CallsD Tryz.prog 167 #[.pointer (some ⟨s, 0, none⟩), .int .i64 k] u w fun e u' w' => u' = u ∧ e = .returned (.tuple #[]) ∧ Sk w' s (skCut k st) ∧ Chg (fun x _ => SkC s st x) w w' := by
  match st, h, hk with
  | none, h, _ =>
    have HS := Lib.hid h
    obtain ⟨h1, h2, h3⟩ := h
    go_enter_d Tryz.func167, Tryz.ntmps167
    go_wp2_with fail
    refine bodyPost_ret (results_none rfl _ _ _) rfl ?_
    exact ⟨rfl, HS.out, Chg.refl _ _⟩
  | some (i, A, n, c), h, hk =>
    obtain ⟨h1, h2, h3, h4, h5, h6, h7, h8, h9⟩ := h
    have hk' : k ≤ n := hk
    have hf := h6.free 0
    have hin : Calls Tryz.prog 231 #[.pointer (some ⟨i, 0, none⟩), .int .i64 k] w fun e w' => e = .returned (.tuple #[]) ∧ w.setCell ⟨i, 0, none⟩ (.slice A k c) = w' := by
      rcases h8 with e | ⟨b, o, n', c', e, hn⟩
      · cases e
        obtain rfl : k = 0 := by omega
        go_enter Tryz.func231, Tryz.ntmps231
        go_wp2_with fail
        go_end0
        exact ⟨rfl, rfl⟩
      · cases e
        have hle := hn.le
        have i1 : (k : Int) ≤ c := by omega
        go_enter Tryz.func231, Tryz.ntmps231
        go_wp2_with fail
        go_end0
        exact ⟨rfl, rfl⟩
    have HI := Lib.hid hin
    have hc := cell_sl h7 (.slice A k c)
    have hs : Sk (w.setCell ⟨i, 0, none⟩ (.slice A k c)) s (skCut k (some (i, A, n, c))) := by
      refine ⟨h1, hc.plain _ h2, (hc.cell _ _ h2.lt (fun f => h5 f.symm)).trans h3, h4, h5, hc.plain _ h6, World.cell?_setCell_same _ _ _ h7, ?_, h9⟩
      rcases (h8.chg hc) with e | ⟨b, o, n', c', e, hn⟩
      · cases e
        obtain rfl : k = 0 := by omega
        exact .inl rfl
      · cases e
        exact .inr ⟨b, o, k, c, rfl, hn.len (by have := hn.le; omega)⟩
    have HC := Lib.hid (And.intro hc hs)
    clear hin h7 h8 h9 hc hs hf
    go_enter_d Tryz.func167, Tryz.ntmps167
    go_wp2_with fail
    refine HI.out.mono ?_
    rintro e w1 ⟨rfl, rfl⟩
    go_wp2_with fail
    go_end0
    exact ⟨rfl, HC.out.2, HC.out.1.mono (fun x o _ f => .inr f)⟩
theorem andNot3 {a : Nat} (h : a < 4294967296) : bits BinOp.andNot .i64 (a : Int) 3 = ((a / 4 * 4 : Nat) : Int) := by
  have h1 : (BitVec.ofInt 64 (a : Int)).toNat = a := by
    rw [BitVec.ofInt_natCast, BitVec.toNat_ofNat]; exact Nat.mod_eq_of_lt (by omega)
  have h2 : (~~~ BitVec.ofInt 64 (3 : Int)).toNat = 18446744073709551612 := by decide
  show IntKind.i64.wrap ((BitVec.ofInt 64 (a : Int) &&& ~~~ BitVec.ofInt 64 (3 : Int)).toNat : Int) = _
  rw [BitVec.toNat_and, h1, h2]
  have h3 : a &&& 18446744073709551612 = a / 4 * 4 := by
    apply Nat.eq_of_testBit_eq
    intro i
    rw [Nat.testBit_and, show (18446744073709551612 : Nat) = (2 ^ 62 - 1) <<< 2 by decide, show a / 4 * 4 = (a >>> 2) <<< 2 by rw [Nat.shiftRight_eq_div_pow, Nat.shiftLeft_eq]]
    rw [Nat.testBit_shiftLeft, Nat.testBit_shiftLeft, Nat.testBit_shiftRight, Nat.testBit_two_pow_sub_one]
    by_cases hi : 2 ≤ i
    · have e : 2 + (i - 2) = i := by omega
      rw [e]
      by_cases h64 : i < 64
      · have : i - 2 < 62 := by omega
        simp [hi, this]
      · have : a.testBit i = false := Nat.testBit_lt_two_pow (Nat.lt_of_lt_of_le h (Nat.le_trans (show 4294967296 ≤ 2 ^ 32 by decide) (Nat.pow_le_pow_right (by decide) (by omega))))
        simp [this]
    · simp [hi]
  rw [h3]
  exact IntWalk.i64_in _ (by omega)
/-- What nat of a stack answers: n words of one's own, and the stack behind it. -/
structure SkNew (w w' : World) (s : Nat) (st st' : Option (Nat × Option Addr × Nat × Nat)) (b o n c : Nat) : Prop where
  nw : NW w' b o n c
  sk : Sk w' s st'
  lo : skLen st ≤ skLen st'
  hi : skLen st' ≤ skLen st + n + 3
  rel : SkR w.heap.size st st'
  out : ∀ x p, Rng b o c x p → ¬ SkT s st' x p
  own : ∀ x p, Rng b o c x p → SkT s st x p ∨ w.heap.size ≤ x
  chg : Chg (SkT s st) w w'
set_option maxHeartbeats 2000000 in
theorem stk_inner (s i : Nat) (A : Option Addr) (l c n : Nat) (w : World) (h : Sk w s (some (i, A, l, c))) (hn0 : 0 < n) (hb : l + n ≤ 50000) (h17 : 17 ≤ w.heap.size) :
    Calls Tryz.prog 234 #[.pointer (some ⟨i, 0, none⟩), .int .i64 n] w fun e w' => ∃ b o st', e = .returned (.slice (some ⟨b, o, none⟩) n n) ∧ SkNew w w' s (some (i, A, l, c)) st' b o n n := by
  have HS := Lib.hid h
  obtain ⟨h1, h2, h3, h4, h5, h6, h7, h8, h9⟩ := h
  obtain ⟨r, hr⟩ : ∃ r, r = (n + 3) / 4 * 4 := ⟨_, rfl⟩
  have e1 : bits BinOp.andNot .i64 ((n : Int) + 3) 3 = (r : Int) := by
    have := andNot3 (a := n + 3) (by omega)
    rw [← hr] at this
    simpa using this
  have hr1 : n ≤ r := by omega
  have hr2 : r ≤ n + 3 := by omega
  have HG := Lib.hid (grow84 A l c r w h8 (by omega) (by omega) h17)
  have H9 := Lib.hid h9
  have hi0 := h6.lt
  have hs0 := h2.lt
  clear hr h8 h9
  go_enter Tryz.func234, Tryz.ntmps234
  go_wp2_with fail
  refine HG.out.mono ?_
  rintro e w1 ⟨b, o, c', rfl, g1, g2, g3, g4⟩
  have c1 := (g3.cell i 0 h6.lt (fun f => f)).trans h7
  have p1 := g3.plain _ h6
  have f1 := p1.free 0
  have hbs : b ≠ s ∧ b ≠ i := by
    rcases g4 with ⟨e, e'⟩ | ⟨e, e'⟩
    · subst e; subst e'
      exact H9.out b o ⟨rfl, Nat.le_refl _, by simp; omega⟩
    · omega
  have G4 := Lib.hid g4
  have K1 := Lib.hid g3
  clear h7 g3 g4 HG
  go_upto_region 4 with fail
  have k2 := cell_sl c1 (.slice (some ⟨b, o, none⟩) l c')
  have c2 := World.cell?_setCell_same w1 ⟨i, 0, none⟩ (.slice (some ⟨b, o, none⟩) l c') c1
  have p2 := k2.plain _ p1
  have f2 := p2.free 0
  have n2 := g1.chg k2
  have K2 := Lib.hid ((K1.out.no (S := Blk i)).then k2 (fun _ _ _ f => f))
  clear c1 p1 f1 g1 k2
  generalize w1.setCell ⟨i, 0, none⟩ (.slice (some ⟨b, o, none⟩) l c') = w2 at c2 p2 f2 n2 K2 ⊢
  have i1 : (l : Int) + (r : Int) ≤ (c' : Int) := by omega
  go_upto_region 5 with fail
  have k3 := cell_sl c2 (.slice (some ⟨b, o, none⟩) (l + r) c')
  have c3 := World.cell?_setCell_same w2 ⟨i, 0, none⟩ (.slice (some ⟨b, o, none⟩) (l + r) c') c2
  have p3 := k3.plain _ p2
  have n3 := n2.chg k3
  have K3 := Lib.hid (K2.out.then k3 (fun _ _ _ f => f))
  clear c2 p2 f2 n2 k3
  generalize w2.setCell ⟨i, 0, none⟩ (.slice (some ⟨b, o, none⟩) (l + r) c') = w3 at c3 p3 n3 K3 ⊢
  have hcw := n3.isW l (by omega)
  have cw := hcw.cell
  have fw := n3.plain.free (o + l)
  have i2 : (l : Int) + (n : Int) ≤ (c' : Int) := by omega
  have i3 : (l : Int) ≤ (l : Int) + (n : Int) := by omega
  have i4 : 0 < (n : Int) := by omega
  go_wp2_with fail
  go_ret
  have k4 := Chg.setW (S := Rng b (o + l) n) (Chg.refl _ w3) hcw (show 1043915 < WB by decide) (fun _ => ⟨rfl, by omega, by omega⟩)
  have hsk : Sk w3 s (some (i, some ⟨b, o, none⟩, l + r, c')) := by
    obtain ⟨q1, q2, q3, q4, q5, q6, q7, q8, q9⟩ := HS.out
    refine ⟨q1, K3.out.plain _ q2, (K3.out.cell _ _ q2.lt (fun f => q5 f.symm)).trans q3, q4, q5, p3, c3, .inr ⟨b, o, l + r, c', rfl, n3.len (by omega)⟩, ?_⟩
    rintro x p ⟨rfl, _, _⟩
    exact hbs
  refine ⟨b, o + l, some (i, some ⟨b, o, none⟩, l + r, c'), (by show Ending.returned (Value.slice (some ⟨b, o + l, none⟩) (l + n - l) (l + n - l)) = _; rw [Nat.add_sub_cancel_left]), ?_, hsk.chg k4 ?_, ?_, ?_, ⟨rfl, ?_⟩, ?_, ?_, ?_⟩
  · refine NW.chg ⟨Nat.le_refl _, ?_, fun j hj => ?_, n3.plain, n3.own⟩ k4
    · have := n3.max; omega
    · rw [Nat.add_assoc]; exact n3.isW _ (by omega)
  · rintro x p (rfl | rfl) f
    · exact hbs.1 f.1.symm
    · exact hbs.2 f.1.symm
  · show l ≤ l + r; omega
  · show l + r ≤ l + n + 3; omega
  · rcases G4.out with ⟨e, e'⟩ | ⟨e, e'⟩
    · exact .inl ⟨e, e'.symm⟩
    · right
      rintro x p ⟨rfl, _, _⟩
      exact e
  · rintro x p ⟨rfl, f1, f2⟩ (f | f | f)
    · exact hbs.1 f
    · exact hbs.2 f
    · have := f.2.1
      simp at this
      omega
  · rintro x p ⟨rfl, f1, f2⟩
    rcases G4.out with ⟨e, e'⟩ | ⟨e, e'⟩
    · subst e; subst e'
      exact .inl (.inr (.inr ⟨rfl, f1, by simp; omega⟩))
    · exact .inr e
  · refine (K3.out.mono (fun x p _ f => .inr (.inl f))).then k4 ?_
    rintro x p hx ⟨rfl, f1, f2⟩
    rcases G4.out with ⟨e, e'⟩ | ⟨e, e'⟩
    · subst e; subst e'
      exact .inr (.inr ⟨rfl, f1, by simp; omega⟩)
    · omega
set_option maxHeartbeats 2000000 in
theorem stk_nat (s : Nat) (st : Option (Nat × Option Addr × Nat × Nat)) (n : Nat) (w : World) (h : Sk w s st) (hn0 : 0 < n) (hb : skLen st + n ≤ 50000) (h17 : 17 ≤ w.heap.size) :
    Calls Tryz.prog 169 #[.pointer (some ⟨s, 0, none⟩), .int .i64 n] w fun e w' => ∃ b o c st', e = .returned (.slice (some ⟨b, o, none⟩) n c) ∧ SkNew w w' s st st' b o n c := by
  match st, h, hb with
  | some (i, A, l, c), h, hb =>
    have HI := Lib.hid (stk_inner s i A l c n w h hn0 hb h17)
    obtain ⟨h1, h2, h3, h4, h5, h6, h7, h8, h9⟩ := h
    clear h7 h8 h9 hb
    go_enter Tryz.func169, Tryz.ntmps169
    go_wp2_with fail
    refine HI.out.mono ?_
    rintro e w1 ⟨b, o, st', rfl, hr⟩
    have HR := Lib.hid hr
    clear hr
    go_wp2_with fail
    go_ret
    exact ⟨b, o, n, st', rfl, HR.out⟩
  | none, h, hb =>
    have HS := Lib.hid h
    obtain ⟨h1, h2, h3⟩ := h
    have hb' : n ≤ 50000 := by have : 0 + n ≤ 50000 := hb; omega
    have hs0 := h2.lt
    by_cases hn4 : n ≤ 4
    · have i1 : (n : Int) ≤ 4 := by omega
      have i0 : 0 < (n : Int) := by omega
      have HG := Lib.hid (grow85 none 0 0 n w (.inl rfl) hn0 (by omega) h17)
      clear hb
      go_enter Tryz.func169, Tryz.ntmps169
      go_wp2_with fail
      refine HG.out.mono ?_
      rintro e w1 ⟨b, o, c', rfl, g1, g2, g3, g4⟩
      have hbn : w.heap.size ≤ b := by
        rcases g4 with ⟨e, -⟩ | ⟨e, -⟩
        · cases e
        · exact e
      have hcw := g1.isW 0 (by omega)
      have cw := hcw.cell
      have fw := g1.plain.free o
      rw [Nat.add_zero] at cw
      have i2 : (n : Int) ≤ (c' : Int) := by omega
      have K := Lib.hid g3
      clear g3 g4 HG
      go_wp2_with fail
      go_ret
      have k4 := Chg.setW (S := Rng b o c') (Chg.refl _ w1) hcw (show 11259375 < WB by decide) (fun _ => ⟨rfl, by omega, by omega⟩)
      rw [Nat.add_zero] at k4
      refine ⟨b, o, c', none, rfl, (g1.len (by omega)).chg k4, ((HS.out.chg K.out (fun _ _ _ f => f)).chg k4 ?_), Nat.le_refl _, ?_, trivial, ?_, ?_, ?_⟩
      · rintro x p e f
        have e : x = s := e
        have := f.1; omega
      · show 0 ≤ 0 + n + 3; omega
      · rintro x p ⟨rfl, _, _⟩ f
        have f : x = s := f
        omega
      · rintro x p ⟨rfl, _, _⟩
        exact .inr hbn
      · refine (K.out.no).then k4 ?_
        rintro x p hx ⟨rfl, _, _⟩
        omega
    · have i1 : ¬ (n : Int) ≤ 4 := by omega
      have f0 := h2.free 0
      clear hb
      go_enter Tryz.func169, Tryz.ntmps169
      go_upto_region 11 with fail
      obtain ⟨i, hi⟩ : ∃ i, i = w.heap.size := ⟨_, rfl⟩
      rw [← hi]
      have k1 := (Chg.refl (Blk s) w).setO (.pointer (some ⟨i, 0, none⟩)) h3 (by simp) (by simp) (fun _ => rfl)
      have k2 := k1.alloc (.cells #[.slice none 0 0] 260)
      have g0 := World.cell?_alloc_new (w := w.setCell ⟨s, 0, none⟩ (.pointer (some ⟨i, 0, none⟩))) #[.slice none 0 0] 260 0
      have gp := Plain.new (w.setCell ⟨s, 0, none⟩ (.pointer (some ⟨i, 0, none⟩))) #[.slice none 0 0] 260
      rw [show (w.setCell ⟨s, 0, none⟩ (.pointer (some ⟨i, 0, none⟩))).heap.size = i by rw [hi]; simp] at g0 gp
      have hsk : Sk ((w.setCell ⟨s, 0, none⟩ (.pointer (some ⟨i, 0, none⟩))).alloc (.cells #[.slice none 0 0] 260)) s (some (i, none, 0, 0)) :=
        ⟨h1, k2.plain _ h2, (((Chg.refl No _).alloc _).cell s 0 (by simpa using hs0) (fun f => f)).trans (World.cell?_setCell_same _ _ _ h3), by omega, by omega, gp, g0, .inl rfl, fun x o f => f.elim⟩
      have K := Lib.hid k2
      generalize (w.setCell ⟨s, 0, none⟩ (.pointer (some ⟨i, 0, none⟩))).alloc (.cells #[.slice none 0 0] 260) = w1 at hsk K ⊢
      have hw1 : w.heap.size ≤ w1.heap.size := K.out.size
      have HI := Lib.hid (stk_inner s i none 0 0 n w1 hsk hn0 (by omega) (by omega))
      have HK := Lib.hid hi
      clear hsk hi k1 k2 g0 gp
      go_wp2_with fail
      refine HI.out.mono ?_
      rintro e w2 ⟨b, o, st', rfl, hr⟩
      have HR := Lib.hid hr
      clear hr
      go_wp2_with fail
      go_ret
      have R := HR.out
      refine ⟨b, o, n, st', rfl, R.nw, R.sk, Nat.zero_le _, by have := R.hi; exact this, ?_, R.out, ?_, ?_⟩
      · refine SkR.trans (m := w.heap.size) (m' := w1.heap.size) (s2 := some (i, none, 0, 0)) ⟨by have := HK.out; omega, fun x o f => f.elim⟩ R.rel hw1
      · intro x p f
        rcases R.own x p f with (g | g | g) | g
        · exact .inl g
        · right; have := HK.out; omega
        · exact g.elim
        · right; omega
      · refine K.out.then R.chg ?_
        rintro x p hx (g | g | g)
        · exact g
        · have := HK.out; omega
        · exact g.elim
set_option maxHeartbeats 1000000 in
theorem greaterThan_ok (x1 x2 y1 y2 : Nat) (w : World) (hx : x2 < WB) (hy : y2 < WB) :
    Calls Tryz.prog 279 #[.int .u64 x1, .int .u64 x2, .int .u64 y1, .int .u64 y2] w fun e w' => e = .returned (.bool (decide (y1 * WB + y2 < x1 * WB + x2))) ∧ w = w' := by
  rcases Nat.lt_trichotomy y1 x1 with h | h | h
  · have d : decide (y1 < x1) = true := decide_eq_true h
    have r : decide (y1 * WB + y2 < x1 * WB + x2) = true := decide_eq_true (by
      have : (y1 + 1) * WB ≤ x1 * WB := Nat.mul_le_mul_right _ h
      rw [Nat.add_mul] at this; omega)
    rw [r]
    clear hx hy r
    go_enter Tryz.func279, Tryz.ntmps279
    go_wp2_with fail
    go_ret
    exact ⟨rfl, rfl⟩
  · subst h
    have d : decide (y1 < y1) = false := decide_eq_false (by omega)
    have e : ((y1 : Int) == (y1 : Int)) = true := by simp
    by_cases h2 : y2 < x2
    · have d2 : decide (y2 < x2) = true := decide_eq_true h2
      have r : decide (y1 * WB + y2 < y1 * WB + x2) = true := decide_eq_true (by omega)
      rw [r]
      clear hx hy r
      go_enter Tryz.func279, Tryz.ntmps279
      go_wp2_with fail
      go_ret
      exact ⟨rfl, rfl⟩
    · have d2 : decide (y2 < x2) = false := decide_eq_false h2
      have r : decide (y1 * WB + y2 < y1 * WB + x2) = false := decide_eq_false (by omega)
      rw [r]
      clear hx hy r
      go_enter Tryz.func279, Tryz.ntmps279
      go_wp2_with fail
      go_ret
      exact ⟨rfl, rfl⟩
  · have d : decide (y1 < x1) = false := decide_eq_false (by omega)
    have e : ((x1 : Int) == (y1 : Int)) = false := beq_eq_false_iff_ne.2 (by omega)
    have r : decide (y1 * WB + y2 < x1 * WB + x2) = false := decide_eq_false (by
      have : (x1 + 1) * WB ≤ y1 * WB := Nat.mul_le_mul_right _ h
      rw [Nat.add_mul] at this; omega)
    rw [r]
    clear hx hy r
    go_enter Tryz.func279, Tryz.ntmps279
    go_wp2_with fail
    go_ret
    exact ⟨rfl, rfl⟩
/-- The state of long division: k figures of the quotient are still to come. -/
def DvI (wr : World) (qb qo m ub uo n U V k uj : Nat) : Prop :=
  (k = m + 1 ∧ uj = 0 ∧ Val wr ub uo (m + n) = U ∧ Val wr ub (uo + m) n < V) ∨
  (k ≤ m ∧ uj = wd wr ub (uo + (k + n - 1)) ∧ Val wr ub (uo + k) n < V ∧ U = Val wr qb (qo + k) (m - k) * WB ^ k * V + Val wr ub uo (k + n) ∧ Val wr ub uo (m + n) = Val wr ub uo (k + n))
theorem DvI.step {wr wf : World} {qb qo m ub uo n U V j uj qd A T : Nat} (h : DvI wr qb qo m ub uo n U V (j + 1) uj) (hj : j < m) (hV : V ≤ WB ^ n)
    (hT : T = Val wr ub (uo + j) (n + 1)) (hA : A = Val wf ub (uo + j) (n + 1)) (hqd : T = qd * V + A) (hAV : A < V)
    (hu1 : ∀ i, i < j → wd wf ub (uo + i) = wd wr ub (uo + i)) (hu2 : ∀ i, j + n + 1 ≤ i → i < m + n → wd wf ub (uo + i) = wd wr ub (uo + i))
    (hq : ∀ i, j < i → i < m → wd wf qb (qo + i) = wd wr qb (qo + i)) (hqj : wd wf qb (qo + j) = qd) (hn : 0 < n) :
    DvI wf qb qo m ub uo n U V j (wd wf ub (uo + (j + n - 1))) := by
  rcases h with ⟨h, _⟩ | ⟨-, -, -, h4, h5⟩
  · omega
  right
  have hA2 : A = Val wf ub (uo + j) n + wd wf ub (uo + j + n) * WB ^ n := by rw [hA, Val_succ]
  have htop : wd wf ub (uo + j + n) = 0 := by
    rcases Nat.eq_zero_or_pos (wd wf ub (uo + j + n)) with e | e
    · exact e
    · have : 1 * WB ^ n ≤ wd wf ub (uo + j + n) * WB ^ n := Nat.mul_le_mul_right _ e
      omega
  rw [htop, Nat.zero_mul, Nat.add_zero] at hA2
  have c1 : Val wf ub uo j = Val wr ub uo j := Val_congr hu1
  have s1 := Val_split wr ub uo j (n + 1)
  have s2 := Val_split wf ub uo j n
  have s3 := Val_split wf ub uo j (n + 1)
  rw [← hT] at s1
  rw [← hA2, c1] at s2
  rw [← hA, c1] at s3
  have e1 : j + 1 + n = j + (n + 1) := by omega
  rw [e1] at h4 h5
  have q1 : Val wf qb (qo + j) (m - j) = qd + WB * Val wr qb (qo + (j + 1)) (m - (j + 1)) := by
    rw [show m - j = (m - (j + 1)) + 1 by omega, Val_low, hqj]
    rw [show qo + j + 1 = qo + (j + 1) by omega]
    rw [show Val wf qb (qo + (j + 1)) (m - (j + 1)) = Val wr qb (qo + (j + 1)) (m - (j + 1)) from Val_congr fun i hi => by
      rw [show qo + (j + 1) + i = qo + (j + 1 + i) by omega]; exact hq _ (by omega) (by omega)]
  refine ⟨by omega, rfl, by rw [← hA2]; exact hAV, ?_, ?_⟩
  · rw [h4, q1, s1, s2, hqd, Nat.pow_succ]
    grind
  · have s4 := Val_split wr ub uo (j + (n + 1)) (m - (j + 1))
    have s5 := Val_split wf ub uo (j + (n + 1)) (m - (j + 1))
    rw [show j + (n + 1) + (m - (j + 1)) = m + n by omega] at s4 s5
    have c2 : Val wf ub (uo + (j + (n + 1))) (m - (j + 1)) = Val wr ub (uo + (j + (n + 1))) (m - (j + 1)) := Val_congr fun i hi => by
      rw [show uo + (j + (n + 1)) + i = uo + (j + (n + 1) + i) by omega]; exact hu2 _ (by omega) (by omega)
    rw [c2] at s5
    omega
theorem Val_top2 (w : World) (b o n : Nat) (h2 : 2 ≤ n) : Val w b o n = (wd w b (o + (n - 1)) * WB + wd w b (o + (n - 2))) * WB ^ (n - 2) + Val w b o (n - 2) := by
  obtain ⟨p, rfl⟩ : ∃ p, n = p + 2 := ⟨n - 2, by omega⟩
  rw [show p + 2 = (p + 1) + 1 from rfl, Val_succ, Val_succ, show p + 1 + 1 - 1 = p + 1 by omega, show p + 1 + 1 - 2 = p by omega, Nat.pow_succ]
  grind
/-- The leading words of the two numbers. -/
structure Ld (T V P uj u1 u0 v1 v2 : Nat) : Prop where
  hT : ∃ l, l < P ∧ T = ((uj * WB + u1) * WB + u0) * P + l
  hV : ∃ l, l < P ∧ V = (v1 * WB + v2) * P + l
  l2 : v2 < WB
  l0 : u0 < WB
  l1 : u1 < WB
theorem Ld.same {T V P uj u1 u0 v1 v2 : Nat} (h : Ld T V P uj u1 u0 v1 v2) (he : uj = v1) (hv : WB ≤ 2 * v1) (hb : T < V * WB) : Gs T V (WB - 1) := by
  obtain ⟨⟨l, h1, h2⟩, ⟨l', h3, h4⟩, l2, l0, l1⟩ := h
  refine ⟨?_, ?_⟩
  · rw [Nat.sub_add_cancel (Nat.le_of_lt (show 1 < WB by decide)), Nat.mul_comm]; exact hb
  · have e1 : (v1 * WB + v2) * P + l' < (v1 + 1) * (WB * P) := by
      have a : (v2 + 1) * P ≤ WB * P := Nat.mul_le_mul_right _ l2
      grind
    refine dv_same (v1 := v1) (B := WB) (P := WB * P) hv (by rw [h4]; exact e1) ?_
    rw [h2, he]
    grind
theorem Ld.init {T V P uj u1 u0 v1 v2 : Nat} (h : Ld T V P uj u1 u0 v1 v2) (hv : 0 < v1) : T < (divQ uj u1 v1 + 1) * V := by
  obtain ⟨⟨l, h1, h2⟩, ⟨l', h3, h4⟩, l2, l0, l1⟩ := h
  refine dv_first (B := WB) (P := P) hv ?_ ?_
  · rw [h4]; grind
  · rw [h2]
    have a : (u0 + 1) * P ≤ WB * P := Nat.mul_le_mul_right _ l0
    grind
theorem Ld.step {T V P uj u1 u0 v1 v2 qh rh : Nat} (h : Ld T V P uj u1 u0 v1 v2) (he : qh * v1 + rh = uj * WB + u1) (ht : rh * WB + u0 < qh * v2) : T < qh * V := by
  obtain ⟨⟨l, h1, h2⟩, ⟨l', h3, h4⟩, l2, l0, l1⟩ := h
  refine dv_step (V2 := v1 * WB + v2) (U3 := (uj * WB + u1) * WB + u0) (P := P) ?_ ?_ ?_
  · rw [← he]; grind
  · rw [h4]; omega
  · rw [h2, Nat.add_mul _ 1]; omega
theorem Ld.done {T V P uj u1 u0 v1 v2 qh rh : Nat} (h : Ld T V P uj u1 u0 v1 v2) (he : qh * v1 + rh = uj * WB + u1) (ht : qh * v2 ≤ rh * WB + u0) (hq : qh < WB) (hv : 0 < v1) : (qh - 1) * V ≤ T := by
  obtain ⟨⟨l, h1, h2⟩, ⟨l', h3, h4⟩, l2, l0, l1⟩ := h
  refine dv_upper (V2 := v1 * WB + v2) (U3 := (uj * WB + u1) * WB + u0) (P := P) ?_ ?_ ?_ ?_
  · rw [← he]; grind
  · have : 1 * WB ≤ v1 * WB := Nat.mul_le_mul_right _ hv
    omega
  · rw [h4, Nat.add_mul _ 1]; omega
  · rw [h2]; omega
/-- One less, on words. -/
theorem ref_arith {qh rh x1 x2 u0 v1 v2 : Nat} (ht : rh * WB + u0 < x1 * WB + x2) (hx : x1 * WB + x2 = qh * v2) (hq : qh < WB) (hr : rh < WB) (hv1 : v1 < WB) (hv2 : v2 < WB) (hx1 : x1 < WB) (hx2 : x2 < WB) :
    ∃ q1 rr y1 y2 : Nat, qh = q1 + 1 ∧ IntKind.u64.wrap ((qh : Int) - 1) = (q1 : Int) ∧ IntKind.u64.wrap ((rh : Int) + (v1 : Int)) = (rr : Int) ∧ rr < WB ∧ ((decide (rr < v1) = true ∧ WB ≤ rh + v1) ∨ (decide (rr < v1) = false ∧ rr = rh + v1)) ∧
      IntKind.u64.wrap ((x2 : Int) - (v2 : Int)) = (y2 : Int) ∧ y2 < WB ∧ ((decide (x2 < v2) = true ∧ IntKind.u64.wrap ((x1 : Int) - 1) = (y1 : Int)) ∨ (decide (x2 < v2) = false ∧ y1 = x1)) ∧ y1 * WB + y2 = q1 * v2 ∧ y1 < WB := by
  have hq0 : 0 < qh := by
    rcases Nat.eq_zero_or_pos qh with e | e
    · rw [e, Nat.zero_mul] at hx; omega
    · exact e
  obtain ⟨q1, rfl⟩ : ∃ q1, qh = q1 + 1 := ⟨qh - 1, by omega⟩
  rw [Nat.add_mul, Nat.one_mul] at hx
  have w1 : IntKind.u64.wrap (((q1 + 1 : Nat) : Int) - 1) = (q1 : Int) := by
    rw [IntKind.wrap_u64]; unfold WB at hq; omega
  obtain ⟨rr, hrr, hrr2, hrr3⟩ : ∃ rr : Nat, IntKind.u64.wrap ((rh : Int) + (v1 : Int)) = (rr : Int) ∧ rr < WB ∧ ((decide (rr < v1) = true ∧ WB ≤ rh + v1) ∨ (decide (rr < v1) = false ∧ rr = rh + v1)) := by
    rcases Nat.lt_or_ge (rh + v1) WB with h | h
    · exact ⟨rh + v1, by rw [IntKind.wrap_u64]; unfold WB at h; omega, h, .inr ⟨decide_eq_false (by omega), rfl⟩⟩
    · exact ⟨rh + v1 - WB, by rw [IntKind.wrap_u64]; unfold WB at *; omega, by omega, .inl ⟨decide_eq_true (by omega), h⟩⟩
  rcases Nat.lt_or_ge x2 v2 with h | h
  · have hx10 : 0 < x1 := by
      rcases Nat.eq_zero_or_pos x1 with e | e
      · rw [e, Nat.zero_mul] at hx; omega
      · exact e
    obtain ⟨y1, rfl⟩ : ∃ y1, x1 = y1 + 1 := ⟨x1 - 1, by omega⟩
    refine ⟨q1, rr, y1, x2 + WB - v2, rfl, w1, hrr, hrr2, hrr3, ?_, by omega, .inl ⟨decide_eq_true h, ?_⟩, ?_, by omega⟩
    · rw [IntKind.wrap_u64]; unfold WB at *; omega
    · rw [IntKind.wrap_u64]; unfold WB at hx1; omega
    · rw [Nat.add_mul, Nat.one_mul] at hx; omega
  · refine ⟨q1, rr, x1, x2 - v2, rfl, w1, hrr, hrr2, hrr3, ?_, by omega, .inr ⟨decide_eq_false (by omega), rfl⟩, by omega, hx1⟩
    rw [IntKind.wrap_u64]; unfold WB at *; omega
end Go.Proofs.YtacfhndledcmgaaGreatDoor
