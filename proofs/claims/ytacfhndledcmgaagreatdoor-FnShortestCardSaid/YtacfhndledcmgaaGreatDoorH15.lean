/- Lemmas for the law FnShortest: the plain law of the shortest figures, fractions of the specification. Conditions: those in each theorem; none besides. -/
import Derived.Test.YtacfhndledcmgaaGreatDoorH14
import Derived.Test.YtacfhndledcmgaaGreatDoorH7
import Derived.Test.YtacfhndledcmgaaGreatDoorH8
set_option linter.unusedVariables false
set_option linter.unusedSimpArgs false
namespace Go.Proofs.YtacfhndledcmgaaGreatDoor
open Go.RowKit
/-- Figures in order: at least one, no zero at either end. -/
def DOrd (ds : List Nat) : Prop := 0 < ds.length ∧ ds.getD 0 0 ≠ 0 ∧ ds.getD (ds.length - 1) 0 ≠ 0 ∧ ∀ d ∈ ds, d < 10
/-- The decimal 0.ds by 10 to xs, counted in units of 10 to x - r. -/
def InU (ds : List Nat) (xs x : Int) (r V : Nat) : Prop := ∃ z : Nat, (z : Int) = r + xs - x - ds.length ∧ V = Nd ds * 10 ^ z
theorem InU.dp {ds : List Nat} {x : Int} {r V : Nat} (h : InU ds x x r V) : ds.length ≤ r ∧ V = Dp ds r := by
  obtain ⟨z, hz, rfl⟩ := h
  refine ⟨by omega, ?_⟩
  rw [Dp_ge _ (by omega)]; congr 2; omega
theorem dp_floor {ds : List Nat} {r i : Nat} (hd : ∀ d ∈ ds, d < 10) (hi : i ≤ r) : Dp ds i * 10 ^ (r - i) ≤ Dp ds r ∧ Dp ds r < (Dp ds i + 1) * 10 ^ (r - i) := by
  obtain ⟨R, h1, h2⟩ := Dp_tail hd i (r - i)
  rw [show i + (r - i) = r by omega] at h2
  rw [h2, Nat.add_mul, Nat.one_mul]
  omega
theorem dp_exact {ds : List Nat} {r i : Nat} (hl : ds.length ≤ i) (hi : i ≤ r) : Dp ds r = Dp ds i * 10 ^ (r - i) := by
  rw [Dp_ge _ hl, Dp_ge _ (Nat.le_trans hl hi), Nat.mul_assoc, ← Nat.pow_add]; congr 2; omega
theorem dp_strict {ds : List Nat} {r i : Nat} (ho : DOrd ds) (hi : i < ds.length) (hr : ds.length ≤ r) : Dp ds i * 10 ^ (r - i) < Dp ds r := by
  obtain ⟨h0, _, hl, hd⟩ := ho
  have hlt := getD_lt (j := ds.length - 1) hd
  rw [dp_exact (Nat.le_refl _) hr, show r - i = (ds.length - i) + (r - ds.length) by omega, Nat.pow_add, ← Nat.mul_assoc]
  apply Nat.mul_lt_mul_of_pos_right _ (Nat.pow_pos (by decide))
  have h1 := (dp_floor hd (i := i) (r := ds.length) (by omega)).1
  have h2 : Dp ds ds.length = 10 * Dp ds (ds.length - 1) + ds.getD (ds.length - 1) 0 := by
    have := Dp_succ ds (ds.length - 1)
    rwa [show ds.length - 1 + 1 = ds.length by omega] at this
  have h3 : Dp ds i * 10 ^ (ds.length - i) = 10 * (Dp ds i * 10 ^ (ds.length - i - 1)) := by
    have : 10 ^ (ds.length - i) = 10 ^ (ds.length - i - 1) * 10 := by rw [← Nat.pow_succ]; congr 1; omega
    rw [this]; grind
  omega
theorem dp_congr {ds es : List Nat} : ∀ {i : Nat}, (∀ j, j < i → es.getD j 0 = ds.getD j 0) → Dp es i = Dp ds i
  | 0, _ => by rw [Dp_zero, Dp_zero]
  | i + 1, h => by rw [Dp_succ, Dp_succ, dp_congr (fun j hj => h j (by omega)), h i (by omega)]
theorem InU.frame {ds : List Nat} {xs x : Int} {r V : Nat} (h : InU ds xs x r V) (h0 : 0 < ds.length) : ∃ r' : Nat, (r' : Int) = r + xs - x ∧ ds.length ≤ r' ∧ V = Dp ds r' := by
  obtain ⟨z, hz, rfl⟩ := h
  refine ⟨z + ds.length, by omega, by omega, ?_⟩
  rw [Dp_ge _ (by omega)]; congr 2; omega
theorem dp_one (ds : List Nat) : Dp ds 1 = ds.getD 0 0 := by
  have := Dp_succ ds 0
  rw [Dp_zero] at this; simpa using this
theorem dp_lt {ds : List Nat} (hd : ∀ d ∈ ds, d < 10) : ∀ i, Dp ds i < 10 ^ i
  | 0 => by rw [Dp_zero]; decide
  | i + 1 => by
    have := dp_lt hd i
    have hg := getD_lt (j := i) hd
    rw [Dp_succ, Nat.pow_succ]; omega
theorem ten_le {a b : Nat} (h : a ≤ b) : 10 ^ a ≤ 10 ^ b := Nat.pow_le_pow_right (by decide) h
theorem ten_pos (a : Nat) : 0 < 10 ^ a := Nat.pow_pos (by decide)
/-- A value and its two neighbours at the same distance, by their figures. -/
structure ShSet (ds ls us : List Nat) (x xl xu : Int) (r VD VL VU h : Nat) : Prop where
  od : DOrd ds
  ol : DOrd ls
  ou : DOrd us
  vd : InU ds x x r VD
  vl : InU ls xl x r VL
  vu : InU us xu x r VU
  lo : VL + h = VD
  hi : VD + h = VU
  h0 : 0 < h
  h4 : 4 * h ≤ VD
section
variable {ds ls us : List Nat} {x xl xu : Int} {r VD VL VU h : Nat}
theorem ShSet.dbd (S : ShSet ds ls us x xl xu r VD VL VU h) : 0 < r ∧ VD = Dp ds r ∧ ds.getD 0 0 * 10 ^ (r - 1) ≤ VD ∧ VD < (ds.getD 0 0 + 1) * 10 ^ (r - 1) ∧ 0 < ds.getD 0 0 ∧ ds.getD 0 0 < 10 ∧ ds.length ≤ r := by
  obtain ⟨a, b⟩ := S.vd.dp
  have := S.od.1
  have hf := dp_floor S.od.2.2.2 (i := 1) (r := r) (by omega)
  rw [dp_one, ← b] at hf
  exact ⟨by omega, b, hf.1, hf.2, Nat.pos_of_ne_zero S.od.2.1, getD_lt S.od.2.2.2, a⟩
theorem ShSet.xl_le (S : ShSet ds ls us x xl xu r VD VL VU h) : xl ≤ x := by
  obtain ⟨a1, _, a3, a4, a5, a6, _⟩ := S.dbd
  obtain ⟨r', b1, b2, b3⟩ := S.vl.frame S.ol.1
  have := S.ol.1
  have hf := dp_floor S.ol.2.2.2 (i := 1) (r := r') (by omega)
  rw [dp_one, ← b3] at hf
  have hl0 := Nat.pos_of_ne_zero S.ol.2.1
  by_cases hx : xl ≤ x
  · exact hx
  exfalso
  have c1 : 10 ^ r ≤ 10 ^ (r' - 1) := ten_le (by omega)
  have c2 : 10 ^ r = 10 ^ (r - 1) * 10 := by rw [← Nat.pow_succ]; congr 1; omega
  have c3 : (ds.getD 0 0 + 1) * 10 ^ (r - 1) ≤ 10 * 10 ^ (r - 1) := Nat.mul_le_mul_right _ (by omega)
  have c4 : 1 * 10 ^ (r' - 1) ≤ ls.getD 0 0 * 10 ^ (r' - 1) := Nat.mul_le_mul_right _ hl0
  have := S.lo
  have := S.h0
  omega
theorem ShSet.xu_ge (S : ShSet ds ls us x xl xu r VD VL VU h) : x ≤ xu := by
  obtain ⟨a1, _, a3, a4, a5, a6, _⟩ := S.dbd
  obtain ⟨r', b1, b2, b3⟩ := S.vu.frame S.ou.1
  have := S.ou.1
  have hf := dp_lt S.ou.2.2.2 r'
  rw [← b3] at hf
  by_cases hx : x ≤ xu
  · exact hx
  exfalso
  have c1 : 10 ^ r' ≤ 10 ^ (r - 1) := ten_le (by omega)
  have c3 : 1 * 10 ^ (r - 1) ≤ ds.getD 0 0 * 10 ^ (r - 1) := Nat.mul_le_mul_right _ a5
  have := S.hi
  omega
theorem ShSet.xl_eq (S : ShSet ds ls us x xl xu r VD VL VU h) (he : ls.getD 0 0 = ds.getD 0 0) : xl = x := by
  have hle := S.xl_le
  obtain ⟨a1, _, a3, a4, a5, a6, _⟩ := S.dbd
  obtain ⟨r', b1, b2, b3⟩ := S.vl.frame S.ol.1
  have := S.ol.1
  have hf := dp_floor S.ol.2.2.2 (i := 1) (r := r') (by omega)
  rw [dp_one, ← b3, he] at hf
  by_cases hx : xl = x
  · exact hx
  exfalso
  have c1 : 10 ^ (r' - 1) ≤ 10 ^ (r - 2) := ten_le (by omega)
  have c2 : 10 ^ (r - 1) = 10 ^ (r - 2) * 10 := by rw [← Nat.pow_succ]; congr 1; omega
  have hl := S.lo
  have h4 := S.h4
  have c3 : (ds.getD 0 0 + 1) * 10 ^ (r' - 1) ≤ (ds.getD 0 0 + 1) * 10 ^ (r - 2) := Nat.mul_le_mul_left _ c1
  rw [c2] at a3
  generalize ds.getD 0 0 = c at *
  generalize 10 ^ (r - 2) = K at *
  have e1 : c * (K * 10) = 10 * (c * K) := by grind
  have e2 : (c + 1) * K = c * K + K := by grind
  have e3 : 1 * K ≤ c * K := Nat.mul_le_mul_right _ a5
  omega
theorem ShSet.xu_eq (S : ShSet ds ls us x xl xu r VD VL VU h) (he : us.getD 0 0 = ds.getD 0 0) : xu = x := by
  have hle := S.xu_ge
  obtain ⟨a1, _, a3, a4, a5, a6, _⟩ := S.dbd
  obtain ⟨r', b1, b2, b3⟩ := S.vu.frame S.ou.1
  have := S.ou.1
  have hf := dp_floor S.ou.2.2.2 (i := 1) (r := r') (by omega)
  rw [dp_one, ← b3, he] at hf
  by_cases hx : xu = x
  · exact hx
  exfalso
  have c1 : 10 ^ r ≤ 10 ^ (r' - 1) := ten_le (by omega)
  have c2 : 10 ^ r = 10 ^ (r - 1) * 10 := by rw [← Nat.pow_succ]; congr 1; omega
  have hl := S.hi
  have h4 := S.h4
  have c3 : ds.getD 0 0 * 10 ^ r ≤ ds.getD 0 0 * 10 ^ (r' - 1) := Nat.mul_le_mul_left _ c1
  rw [c2] at c3
  generalize ds.getD 0 0 = c at *
  generalize 10 ^ (r - 1) = K at *
  have e1 : c * (K * 10) = 10 * (c * K) := by grind
  have e2 : (c + 1) * K = c * K + K := by grind
  have e3 : 1 * K ≤ c * K := Nat.mul_le_mul_right _ a5
  omega
/-- It is right to cut behind figure i. -/
def dnP (ls ds : List Nat) (inc : Prop) (i : Nat) : Prop := ls.getD i 0 ≠ ds.getD i 0 ∨ (inc ∧ i + 1 = ls.length)
/-- It is right to round up behind figure i. -/
def upP (us ds : List Nat) (inc : Prop) (i : Nat) : Prop := ds.getD i 0 ≠ us.getD i 0 ∧ (inc ∨ ds.getD i 0 + 1 < us.getD i 0 ∨ i + 1 < us.length ∨ (us.length ≤ i ∧ ds.getD i 0 < 9))
theorem ShSet.low (S : ShSet ds ls us x xl xu r VD VL VU h) {inc : Prop} {i : Nat} (hi0 : 0 < i) (hr : i ≤ r) (hn : ∀ j, j < i → ¬ dnP ls ds inc j) :
    Dp ds i * 10 ^ (r - i) ≤ VL ∧ (inc → Dp ds i * 10 ^ (r - i) < VL) ∧ h < 10 ^ (r - i) := by
  have he : ∀ j, j < i → ls.getD j 0 = ds.getD j 0 := fun j hj => Classical.byContradiction fun hne => hn j hj (.inl hne)
  obtain rfl := S.xl_eq (he 0 hi0)
  obtain ⟨b1, b2⟩ := S.vl.dp
  obtain ⟨a1, a2⟩ := S.vd.dp
  have hf := dp_floor S.ol.2.2.2 (i := i) (r := r) hr
  have hg := dp_floor S.od.2.2.2 (i := i) (r := r) hr
  rw [← b2, dp_congr he] at hf
  rw [← a2, Nat.add_mul, Nat.one_mul] at hg
  have hlo := S.lo
  refine ⟨hf.1, fun hinc => ?_, by omega⟩
  have hlen : i < ls.length := by
    rcases Nat.lt_or_ge i ls.length with h | h
    · exact h
    · exfalso
      have := S.ol.1
      exact hn (ls.length - 1) (by omega) (.inr ⟨hinc, by omega⟩)
  have := dp_strict S.ol hlen b1
  rw [← b2, dp_congr he] at this
  exact this
theorem ShSet.high (S : ShSet ds ls us x xl xu r VD VL VU h) {inc : Prop} {i : Nat} (hi0 : 0 < i) (hr : i ≤ r) (hn : ∀ j, j < i → ¬ dnP ls ds inc j) (hu : ∀ j, j < i → ¬ upP us ds inc j) :
    VU ≤ (Dp ds i + 1) * 10 ^ (r - i) ∧ (inc → VU < (Dp ds i + 1) * 10 ^ (r - i)) := by
  obtain ⟨l1, _, l3⟩ := S.low hi0 hr hn
  obtain ⟨a1, a2⟩ := S.vd.dp
  have hhi := S.hi
  have hdl := dp_lt S.od.2.2.2 i
  have hg := dp_floor S.od.2.2.2 (i := i) (r := r) hr
  rw [← a2] at hg
  by_cases hinc : inc
  · have he : ∀ j, j < i → us.getD j 0 = ds.getD j 0 := fun j hj => Classical.byContradiction fun hne => hu j hj ⟨fun e => hne e.symm, .inl hinc⟩
    obtain rfl := S.xu_eq (he 0 hi0)
    obtain ⟨b1, b2⟩ := S.vu.dp
    have hf := dp_floor S.ou.2.2.2 (i := i) (r := r) hr
    rw [← b2, dp_congr he] at hf
    exact ⟨Nat.le_of_lt hf.2, fun _ => hf.2⟩
  · refine ⟨?_, fun h => absurd h hinc⟩
    rcases Nat.lt_or_ge ((Dp ds i + 1) * 10 ^ (r - i)) VU with hgt | hle
    · exfalso
      have hK := ten_pos (r - i)
      have hlt : VU < (Dp ds i + 2) * 10 ^ (r - i) := by
        have : (Dp ds i + 2) * 10 ^ (r - i) = (Dp ds i + 1) * 10 ^ (r - i) + 10 ^ (r - i) := by rw [Nat.add_mul, Nat.add_mul]; omega
        omega
      by_cases hx : xu = x
      · subst hx
        obtain ⟨b1, b2⟩ := S.vu.dp
        have hf := dp_floor S.ou.2.2.2 (i := i) (r := r) hr
        rw [← b2] at hf
        have g1 : Dp us i < Dp ds i + 2 := Nat.lt_of_mul_lt_mul_right (a := 10 ^ (r - i)) (by omega)
        have g2 : Dp ds i + 1 < Dp us i + 1 := Nat.lt_of_mul_lt_mul_right (a := 10 ^ (r - i)) (by omega)
        have g3 : Dp us i = Dp ds i + 1 := by omega
        have hlen : i < us.length := by
          rcases Nat.lt_or_ge i us.length with h | h
          · exact h
          · exfalso
            have := dp_exact h hr
            rw [← b2, g3] at this
            omega
        have he : ∀ j, j < i → us.getD j 0 = ds.getD j 0 := fun j hj => Classical.byContradiction fun hne => hu j hj ⟨fun e => hne e.symm, .inr (.inr (.inl (by omega)))⟩
        have := dp_congr he
        omega
      · have hxu := S.xu_ge
        have hne : us.getD 0 0 ≠ ds.getD 0 0 := fun e => hx (S.xu_eq e)
        have hi10 : 10 ^ r = 10 ^ i * 10 ^ (r - i) := by rw [← Nat.pow_add]; congr 1; omega
        obtain ⟨z, hz, hV⟩ := S.vu
        have hn1 := Nd_ge S.ou.1 S.ou.2.1
        have h0u := S.ou.1
        have hVr : 10 ^ r ≤ VU := by
          have c1 : 10 ^ (us.length - 1) * 10 ^ z ≤ Nd us * 10 ^ z := Nat.mul_le_mul_right _ hn1
          rw [← Nat.pow_add] at c1
          have c2 : 10 ^ r ≤ 10 ^ (us.length - 1 + z) := ten_le (by omega)
          omega
        have g1 : 10 ^ i < Dp ds i + 2 := Nat.lt_of_mul_lt_mul_right (a := 10 ^ (r - i)) (by omega)
        have g2 : Dp ds i + 1 = 10 ^ i := by omega
        rw [g2, ← hi10] at hgt
        have hlen : 1 < us.length := by
          rcases Nat.lt_or_ge 1 us.length with h | h
          · exact h
          · exfalso
            have e1 : us.length = 1 := by omega
            have hr10 : 10 ^ z = 10 ^ r * 10 ^ (z - r) := by rw [← Nat.pow_add]; congr 1; omega
            rw [hr10, ← Nat.mul_assoc, Nat.mul_comm (Nd us), Nat.mul_assoc] at hV
            have h4 := S.h4
            have hD := hg.2
            rw [g2, ← hi10] at hD
            generalize Nd us * 10 ^ (z - r) = q at hV
            generalize 10 ^ r = K at *
            have q1 : 1 < q := by
              rcases Nat.lt_or_ge 1 q with h | h
              · exact h
              · have : K * q ≤ K * 1 := Nat.mul_le_mul_left _ h
                omega
            have q2 : K * 2 ≤ K * q := Nat.mul_le_mul_left _ q1
            omega
        exact hu 0 hi0 ⟨fun e => hne e.symm, .inr (.inr (.inl (by omega)))⟩
    · exact hle
theorem ShSet.down (S : ShSet ds ls us x xl xu r VD VL VU h) {inc : Prop} {i : Nat} (hr : i < r) (hn : ∀ j, j < i → ¬ dnP ls ds inc j) (hd : dnP ls ds inc i) :
    VL ≤ Dp ds (i + 1) * 10 ^ (r - (i + 1)) ∧ (¬ inc → VL < Dp ds (i + 1) * 10 ^ (r - (i + 1))) := by
  obtain ⟨a1, _, a3, a4, a5, a6, _⟩ := S.dbd
  obtain ⟨d1, d2⟩ := S.vd.dp
  have hlo := S.lo
  have h0 := S.h0
  have hg := dp_floor S.od.2.2.2 (i := i + 1) (r := r) hr
  rw [← d2] at hg
  by_cases hx : xl = x
  · subst hx
    have he : ∀ j, j < i → ls.getD j 0 = ds.getD j 0 := fun j hj => Classical.byContradiction fun hne => hn j hj (.inl hne)
    obtain ⟨b1, b2⟩ := S.vl.dp
    have hf := dp_floor S.ol.2.2.2 (i := i + 1) (r := r) hr
    rw [← b2] at hf
    have hc := dp_congr he
    have s1 := Dp_succ ls i
    have s2 := Dp_succ ds i
    by_cases hne : ls.getD i 0 = ds.getD i 0
    · rcases hd with hd | ⟨hinc, hlen⟩
      · exact absurd hne hd
      · have hex := dp_exact (ds := ls) (i := i + 1) (r := r) (by omega) hr
        rw [show Dp ls (i + 1) = Dp ds (i + 1) by omega, ← b2] at hex
        exact ⟨Nat.le_of_eq hex, fun h => absurd hinc h⟩
    · have g1 : Dp ls (i + 1) < Dp ds (i + 1) + 1 := Nat.lt_of_mul_lt_mul_right (a := 10 ^ (r - (i + 1))) (by omega)
      have g2 : Dp ls (i + 1) + 1 ≤ Dp ds (i + 1) := by omega
      have g3 := Nat.mul_le_mul_right (10 ^ (r - (i + 1))) g2
      exact ⟨by omega, fun _ => by omega⟩
  · have hxl := S.xl_le
    have hi0 : i = 0 := by
      rcases Nat.eq_zero_or_pos i with h | h
      · exact h
      · exact absurd (S.xl_eq (Classical.byContradiction fun hne => hn 0 h (.inl hne))) hx
    subst hi0
    obtain ⟨r', b1, b2, b3⟩ := S.vl.frame S.ol.1
    have hf := dp_lt S.ol.2.2.2 r'
    rw [← b3] at hf
    have c1 : 10 ^ r' ≤ 10 ^ (r - 1) := ten_le (by omega)
    rw [Nat.zero_add, dp_one]
    have c3 : 1 * 10 ^ (r - 1) ≤ ds.getD 0 0 * 10 ^ (r - 1) := Nat.mul_le_mul_right _ a5
    exact ⟨by omega, fun _ => by omega⟩
theorem ShSet.up (S : ShSet ds ls us x xl xu r VD VL VU h) {inc : Prop} {i : Nat} (hr : i < r) (hn : ∀ j, j < i → ¬ upP us ds inc j) (hu : upP us ds inc i) :
    (Dp ds (i + 1) + 1) * 10 ^ (r - (i + 1)) ≤ VU ∧ (¬ inc → (Dp ds (i + 1) + 1) * 10 ^ (r - (i + 1)) < VU) := by
  obtain ⟨d1, d2⟩ := S.vd.dp
  have hhi := S.hi
  have h0 := S.h0
  have hg := dp_floor S.od.2.2.2 (i := i + 1) (r := r) hr
  have hg' := dp_floor S.od.2.2.2 (i := i) (r := r) (by omega)
  rw [← d2] at hg hg'
  have s2 := Dp_succ ds i
  have hK := ten_pos (r - (i + 1))
  have hdi := getD_lt (j := i) S.od.2.2.2
  have hui := getD_lt (j := i) S.ou.2.2.2
  have hKi : 10 ^ (r - i) = 10 * 10 ^ (r - (i + 1)) := by rw [Nat.mul_comm, ← Nat.pow_succ]; congr 1; omega
  by_cases hx : xu = x
  · subst hx
    obtain ⟨b1, b2⟩ := S.vu.dp
    have hf := dp_floor S.ou.2.2.2 (i := i + 1) (r := r) hr
    rw [← b2] at hf
    by_cases he : ∀ j, j < i → us.getD j 0 = ds.getD j 0
    · have hc := dp_congr he
      have s1 := Dp_succ us i
      have g1 : Dp ds (i + 1) < Dp us (i + 1) + 1 := Nat.lt_of_mul_lt_mul_right (a := 10 ^ (r - (i + 1))) (by omega)
      have hne := hu.1
      have g2 : Dp ds (i + 1) + 1 ≤ Dp us (i + 1) := by omega
      have g3 := Nat.mul_le_mul_right (10 ^ (r - (i + 1))) g2
      refine ⟨by omega, fun hinc => ?_⟩
      rcases hu.2 with q | q | q | ⟨q, _⟩
      · exact absurd q hinc
      · have g4 : Dp ds (i + 1) + 2 ≤ Dp us (i + 1) := by omega
        have g5 := Nat.mul_le_mul_right (10 ^ (r - (i + 1))) g4
        rw [Nat.add_mul] at g5 ⊢
        omega
      · have := dp_strict S.ou q b1
        rw [← b2] at this
        omega
      · exfalso
        have := gd_ge q
        omega
    · obtain ⟨j, hj, hjne⟩ : ∃ j, j < i ∧ us.getD j 0 ≠ ds.getD j 0 := Classical.byContradiction fun hno => he fun j hj => Classical.byContradiction fun hne => hno ⟨j, hj, hne⟩
      have hnj := hn j hj
      have hinc : ¬ inc := fun hinc => hnj ⟨fun e => hjne e.symm, .inl hinc⟩
      have hlen : us.length ≤ i := by
        rcases Nat.lt_or_ge (j + 1) us.length with h | h
        · exact absurd ⟨fun e => hjne e.symm, .inr (.inr (.inl h))⟩ hnj
        · omega
      have hex := dp_exact hlen (r := r) (by omega)
      rw [← b2] at hex
      have g1 : Dp ds i < Dp us i := Nat.lt_of_mul_lt_mul_right (a := 10 ^ (r - i)) (by omega)
      have g2 := Nat.mul_le_mul_right (10 ^ (r - i)) g1
      have hd9 : ds.getD i 0 < 9 := by
        rcases hu.2 with q | q | q | ⟨_, q⟩
        · exact absurd q hinc
        · rw [gd_ge hlen] at q; omega
        · omega
        · exact q
      have g3 : (Dp ds (i + 1) + 2) * 10 ^ (r - (i + 1)) ≤ (Dp ds i + 1) * 10 ^ (r - i) := by
        rw [hKi, ← Nat.mul_assoc]
        exact Nat.mul_le_mul_right _ (by omega)
      rw [Nat.succ_eq_add_one] at g2
      rw [Nat.add_mul] at g3 ⊢
      exact ⟨by omega, fun _ => by omega⟩
  · have hxu := S.xu_ge
    obtain ⟨z, hz, hV⟩ := S.vu
    have hn1 := Nd_ge S.ou.1 S.ou.2.1
    have h0u := S.ou.1
    have hVr : 10 ^ r ≤ VU := by
      have c1 : 10 ^ (us.length - 1) * 10 ^ z ≤ Nd us * 10 ^ z := Nat.mul_le_mul_right _ hn1
      rw [← Nat.pow_add] at c1
      have c2 : 10 ^ r ≤ 10 ^ (us.length - 1 + z) := ten_le (by omega)
      omega
    have hdl := dp_lt S.od.2.2.2 (i + 1)
    have hr10 : 10 ^ r = 10 ^ (i + 1) * 10 ^ (r - (i + 1)) := by rw [← Nat.pow_add]; congr 1; omega
    have g0 : (Dp ds (i + 1) + 1) * 10 ^ (r - (i + 1)) ≤ 10 ^ (i + 1) * 10 ^ (r - (i + 1)) := Nat.mul_le_mul_right _ hdl
    refine ⟨by omega, fun hinc => ?_⟩
    by_cases h9 : ds.getD i 0 < 9
    · have hdl' := dp_lt S.od.2.2.2 i
      have hi10 : 10 ^ (i + 1) = 10 ^ i * 10 := Nat.pow_succ _ _
      have g1 : (Dp ds (i + 1) + 2) * 10 ^ (r - (i + 1)) ≤ 10 ^ (i + 1) * 10 ^ (r - (i + 1)) := Nat.mul_le_mul_right _ (by omega)
      rw [Nat.add_mul] at g1 ⊢
      omega
    · have hlen : i + 1 < us.length := by
        rcases hu.2 with q | q | q | ⟨_, q⟩
        · exact absurd q hinc
        · omega
        · exact q
        · exact absurd q h9
      have hst := dp_strict S.ou (i := 1) (r := us.length) (by omega) (Nat.le_refl _)
      rw [dp_one, Dp_len] at hst
      have hu0 := Nat.pos_of_ne_zero S.ou.2.1
      have c0 : 1 * 10 ^ (us.length - 1) ≤ us.getD 0 0 * 10 ^ (us.length - 1) := Nat.mul_le_mul_right _ hu0
      have c1 : (10 ^ (us.length - 1) + 1) * 10 ^ z ≤ Nd us * 10 ^ z := Nat.mul_le_mul_right _ (by omega)
      rw [Nat.add_mul, ← Nat.pow_add] at c1
      have c2 : 10 ^ r ≤ 10 ^ (us.length - 1 + z) := ten_le (by omega)
      have c3 := ten_pos z
      omega
/-- What the shortest decimal is: within the bounds, and none with a figure less is within. -/
def ShPost (r VL VU : Nat) (x : Int) (inc : Prop) (ds' : List Nat) (x' : Int) : Prop :=
  ∃ z : Nat, (z : Int) = r + x' - x - ds'.length ∧ VL ≤ Nd ds' * 10 ^ z ∧ Nd ds' * 10 ^ z ≤ VU ∧ (¬ inc → VL < Nd ds' * 10 ^ z ∧ Nd ds' * 10 ^ z < VU) ∧ (2 ≤ ds'.length → Nd ds' / 10 * 10 ^ (z + 1) ≤ VL ∧ VU ≤ (Nd ds' / 10 + 1) * 10 ^ (z + 1))
theorem ShSet.whole (S : ShSet ds ls us x xl xu r VD VL VU h) {inc : Prop} {i : Nat} (hi : ds.length ≤ i + 1) (hn : ∀ j, j < i → ¬ dnP ls ds inc j) (hu : ∀ j, j < i → ¬ upP us ds inc j) : ShPost r VL VU x inc ds x := by
  obtain ⟨z, hz, hV⟩ := S.vd
  have h1 := S.lo
  have h2 := S.hi
  have h3 := S.h0
  refine ⟨z, hz, by omega, by omega, fun _ => by omega, fun h2l => ?_⟩
  have hl := S.low (i := ds.length - 1) (by omega) (by omega) (fun j hj => hn j (by omega))
  have hh := S.high (i := ds.length - 1) (by omega) (by omega) (fun j hj => hn j (by omega)) (fun j hj => hu j (by omega))
  have hq : Nd ds / 10 = Dp ds (ds.length - 1) := by
    have := Dp_succ ds (ds.length - 1)
    rw [show ds.length - 1 + 1 = ds.length by omega, Dp_len] at this
    have := getD_lt (j := ds.length - 1) S.od.2.2.2
    omega
  rw [hq, show z + 1 = r - (ds.length - 1) by omega]
  exact ⟨hl.1, hh.1⟩
theorem ShSet.cut (S : ShSet ds ls us x xl xu r VD VL VU h) {inc : Prop} {i T e : Nat} {ds' : List Nat} {x' : Int} (hi : i < r) (hn : ∀ j, j < i → ¬ dnP ls ds inc j) (hu : ∀ j, j < i → ¬ upP us ds inc j)
    (hT : T = Dp ds (i + 1) ∨ T = Dp ds (i + 1) + 1) (hTe : T = Nd ds' * 10 ^ e) (he : (e : Int) = ((i + 1 : Nat) : Int) + (x' - x) - ds'.length) (hlen : ds'.length ≤ i + 1)
    (h1 : VL ≤ T * 10 ^ (r - (i + 1))) (h2 : T * 10 ^ (r - (i + 1)) ≤ VU) (h3 : ¬ inc → VL < T * 10 ^ (r - (i + 1)) ∧ T * 10 ^ (r - (i + 1)) < VU) : ShPost r VL VU x inc ds' x' := by
  have hz : Nd ds' * 10 ^ (r - (i + 1) + e) = T * 10 ^ (r - (i + 1)) := by rw [hTe, Nat.pow_add]; grind
  refine ⟨r - (i + 1) + e, by omega, by rw [hz]; exact h1, by rw [hz]; exact h2, fun hinc => by rw [hz]; exact h3 hinc, fun h2l => ?_⟩
  have hi0 : 0 < i := by omega
  obtain ⟨l1, l2, _⟩ := S.low hi0 (by omega) hn
  obtain ⟨u1, u2⟩ := S.high hi0 (by omega) hn hu
  have s2 := Dp_succ ds i
  have hg := getD_lt (j := i) S.od.2.2.2
  have hKi : 10 ^ (r - i) = 10 * 10 ^ (r - (i + 1)) := by rw [Nat.mul_comm, ← Nat.pow_succ]; congr 1; omega
  -- T is no multiple of 10
  have hno : ∀ G, T = 10 * G → False := by
    intro G hG
    have hGT : T * 10 ^ (r - (i + 1)) = G * 10 ^ (r - i) := by rw [hG, hKi]; grind
    rw [hGT] at h1 h2 h3
    have hcase : G = Dp ds i ∨ G = Dp ds i + 1 := by omega
    by_cases hinc : inc
    · have := l2 hinc
      have := u2 hinc
      rcases hcase with rfl | rfl <;> omega
    · have := h3 hinc
      rcases hcase with rfl | rfl <;> omega
  have he0 : e = 0 := by
    rcases Nat.eq_zero_or_pos e with h | h
    · exact h
    · exfalso
      obtain ⟨k, rfl⟩ : ∃ k, e = k + 1 := ⟨e - 1, by omega⟩
      exact hno (Nd ds' * 10 ^ k) (by rw [hTe, Nat.pow_succ]; grind)
  subst he0
  have hN : Nd ds' = T := by rw [hTe]; simp
  have hq : T / 10 = Dp ds i := by
    rcases hT with h | h
    · omega
    · by_cases h9 : ds.getD i 0 = 9
      · exact absurd (show T = 10 * (Dp ds i + 1) by omega) (hno _)
      · omega
  rw [hN, hq, show r - (i + 1) + 0 + 1 = r - i by omega]
  exact ⟨l1, u1⟩
end
/-- A number nearest to N by 10^k lies next to it. -/
theorem near_next {F R D T : Nat} (hR : R < D) (h : Near (F * D + R) D T) : T = F ∨ T = F + 1 := by
  obtain ⟨h1, h2⟩ := h
  have a1 : (2 * T + 1) * D = 2 * (T * D) + D := by grind
  have a2 : 2 * T * D = 2 * (T * D) := by grind
  rw [a1] at h1
  rw [a2] at h2
  have hD : 0 < D := by omega
  have b1 : F < T + 1 := Nat.lt_of_mul_lt_mul_right (a := D) (by rw [Nat.add_mul]; omega)
  have b2 : T < F + 2 := Nat.lt_of_mul_lt_mul_right (a := D) (by rw [Nat.add_mul]; omega)
  omega
/-- What a step of 'roundShortest' leaves: the figures as they are, cut or rounded up behind figure i. -/
def ShStep (ds ls us : List Nat) (x : Int) (inc : Prop) (i : Nat) (ds' : List Nat) (x' : Int) : Prop :=
  (ds.length ≤ i + 1 ∧ ds' = ds ∧ x' = x) ∨
  (i + 1 < ds.length ∧ DOrd ds' ∧ ds'.length ≤ i + 1 ∧ ∃ T e : Nat, T = Nd ds' * 10 ^ e ∧ (e : Int) = ((i + 1 : Nat) : Int) + (x' - x) - ds'.length ∧ ((T = Dp ds (i + 1) ∧ dnP ls ds inc i) ∨ (T = Dp ds (i + 1) + 1 ∧ upP us ds inc i)))
/-- The whole of it: no earlier figure decides. -/
def ShAll (ds ls us : List Nat) (x : Int) (inc : Prop) (ds' : List Nat) (x' : Int) : Prop :=
  ∃ i, (∀ j, j < i → ¬ dnP ls ds inc j) ∧ (∀ j, j < i → ¬ upP us ds inc j) ∧ ShStep ds ls us x inc i ds' x'
theorem ShSet.all {ds ls us : List Nat} {x xl xu : Int} {r VD VL VU h : Nat} (S : ShSet ds ls us x xl xu r VD VL VU h) {inc : Prop} {ds' : List Nat} {x' : Int} (hA : ShAll ds ls us x inc ds' x') : ShPost r VL VU x inc ds' x' ∧ DOrd ds' := by
  obtain ⟨i, hn, hu, ⟨hl, rfl, rfl⟩ | ⟨hl, ho, hlen, T, e, hTe, he, hT⟩⟩ := hA
  · exact ⟨S.whole hl hn hu, S.od⟩
  · obtain ⟨d1, d2⟩ := S.vd.dp
    have h1 := S.lo
    have h2 := S.hi
    have h3 := S.h0
    have hf := dp_floor S.od.2.2.2 (i := i + 1) (r := r) (by omega)
    rw [← d2] at hf
    refine ⟨?_, ho⟩
    rcases hT with ⟨hT, hd⟩ | ⟨hT, hup⟩
    · obtain ⟨g1, g2⟩ := S.down (by omega) hn hd
      rw [← hT] at g1 g2 hf
      exact S.cut (by omega) hn hu (.inl hT) hTe he hlen g1 (by omega) (fun hinc => ⟨g2 hinc, by omega⟩)
    · obtain ⟨g1, g2⟩ := S.up (by omega) hu hup
      rw [← hT] at g1 g2 hf
      exact S.cut (by omega) hn hu (.inr hT) hTe he hlen (by omega) g1 (fun hinc => ⟨by omega, g2 hinc⟩)
/-- N by 10 to e and K by 2 to t, on a common scale. -/
def dP (t e : Int) (N : Nat) : Nat := N * 10 ^ e.toNat * 2 ^ (-t).toNat
def dQ (t e : Int) (K : Nat) : Nat := K * 2 ^ t.toNat * 10 ^ (-e).toNat
theorem unit_val {Y : Nat} {t y x : Int} {es : List Nat} {r V a b : Nat} (h : DecPure Y t es y) (hu : InU es y x r V) (hab : (a : Int) - b = r - x) : V * (2 ^ (-t).toNat * 10 ^ b) = Y * (2 ^ t.toNat * 10 ^ a) := by
  have hv := h.val
  obtain ⟨z, hz, rfl⟩ := hu
  obtain ⟨u, hu⟩ : ∃ u, u = ((es.length : Int) - y).toNat := ⟨_, rfl⟩
  obtain ⟨v, hv'⟩ : ∃ v, v = (y - (es.length : Int)).toNat := ⟨_, rfl⟩
  rw [← hu, ← hv'] at hv
  have hs : z + u + b = a + v := by omega
  apply Nat.eq_of_mul_eq_mul_right (ten_pos u)
  have e1 : Nd es * 10 ^ z * (2 ^ (-t).toNat * 10 ^ b) * 10 ^ u = Nd es * 10 ^ (z + u + b) * 2 ^ (-t).toNat := by rw [Nat.pow_add, Nat.pow_add]; grind
  have e2 : Y * (2 ^ t.toNat * 10 ^ a) * 10 ^ u = Y * 2 ^ t.toNat * 10 ^ u * 10 ^ a := by grind
  rw [e1, e2, hv, hs, Nat.pow_add]; grind
theorem DecPure.ord {Y : Nat} {t y : Int} {es : List Nat} (h : DecPure Y t es y) : DOrd es := ⟨h.2.1, h.2.2.1, h.2.2.2.1, h.2.2.2.2.1⟩
theorem sh_set {M : Nat} {t x xl xu : Int} {ds ls us : List Nat} (hD : DecPure M t ds x) (hL : DecPure (M - 1) t ls xl) (hU : DecPure (M + 1) t us xu) (h4 : 4 ≤ M) :
    ∃ r VD VL VU h a b : Nat, ShSet ds ls us x xl xu r VD VL VU h ∧ (a : Int) - b = r - x ∧ VL * (2 ^ (-t).toNat * 10 ^ b) = (M - 1) * (2 ^ t.toNat * 10 ^ a) ∧ VU * (2 ^ (-t).toNat * 10 ^ b) = (M + 1) * (2 ^ t.toNat * 10 ^ a) := by
  obtain ⟨r, hr⟩ : ∃ r, r = ds.length + ls.length + us.length + (x - xl).toNat + (x - xu).toNat := ⟨_, rfl⟩
  obtain ⟨a, ha⟩ : ∃ a, a = ((r : Int) - x).toNat := ⟨_, rfl⟩
  obtain ⟨b, hb⟩ : ∃ b, b = (x - (r : Int)).toNat := ⟨_, rfl⟩
  have hab : (a : Int) - b = r - x := by omega
  have iD : InU ds x x r (Nd ds * 10 ^ ((r : Int) + x - x - ds.length).toNat) := ⟨_, by omega, rfl⟩
  have iL : InU ls xl x r (Nd ls * 10 ^ ((r : Int) + xl - x - ls.length).toNat) := ⟨_, by omega, rfl⟩
  have iU : InU us xu x r (Nd us * 10 ^ ((r : Int) + xu - x - us.length).toNat) := ⟨_, by omega, rfl⟩
  have vD := unit_val hD iD hab
  have vL := unit_val hL iL hab
  have vU := unit_val hU iU hab
  generalize Nd ds * 10 ^ ((r : Int) + x - x - ds.length).toNat = VD at *
  generalize Nd ls * 10 ^ ((r : Int) + xl - x - ls.length).toNat = VL at *
  generalize Nd us * 10 ^ ((r : Int) + xu - x - us.length).toNat = VU at *
  have hc : 0 < 2 ^ (-t).toNat * 10 ^ b := Nat.mul_pos (Nat.two_pow_pos _) (ten_pos _)
  have hc' : 0 < 2 ^ t.toNat * 10 ^ a := Nat.mul_pos (Nat.two_pow_pos _) (ten_pos _)
  refine ⟨r, VD, VL, VU, VD - VL, a, b, ?_, hab, vL, vU⟩
  generalize 2 ^ (-t).toNat * 10 ^ b = c at *
  generalize 2 ^ t.toNat * 10 ^ a = c' at *
  obtain ⟨K, rfl⟩ : ∃ K, M = K + 1 := ⟨M - 1, by omega⟩
  rw [Nat.add_sub_cancel] at vL
  rw [Nat.add_mul, Nat.one_mul] at vD
  have vU' : VU * c = K * c' + c' + c' := by rw [vU]; grind
  have l1 : VL < VD := Nat.lt_of_mul_lt_mul_right (a := c) (by omega)
  have l2 : (VD - VL) * c = c' := by rw [Nat.sub_mul]; omega
  have l3 : VD + (VD - VL) = VU := by
    apply Nat.eq_of_mul_eq_mul_right hc
    rw [Nat.add_mul, l2]; omega
  have l4 : 4 * (VD - VL) ≤ VD := by
    apply Nat.le_of_mul_le_mul_right _ hc
    rw [Nat.mul_assoc, l2, vD]
    have : 3 * c' ≤ K * c' := Nat.mul_le_mul_right _ (by omega)
    omega
  exact ⟨hD.ord, hL.ord, hU.ord, iD, iL, iU, by omega, l3, by omega, l4⟩
/-- The same comparison on both scales. -/
theorem scale_pq {N K V z a b r : Nat} {t x e : Int} (hab : (a : Int) - b = r - x) (hz : (z : Int) = r - x + e) (hV : V * (2 ^ (-t).toNat * 10 ^ b) = K * (2 ^ t.toNat * 10 ^ a)) :
    ∃ s1 s2, 0 < s1 ∧ 0 < s2 ∧ N * 10 ^ z * s1 = dP t e N * s2 ∧ V * s1 = dQ t e K * s2 := by
  refine ⟨2 ^ (-t).toNat * 10 ^ b * 10 ^ (-e).toNat, 10 ^ a, Nat.mul_pos (Nat.mul_pos (Nat.two_pow_pos _) (ten_pos _)) (ten_pos _), ten_pos _, ?_, ?_⟩
  · unfold dP
    have hs : z + b + (-e).toNat = a + e.toNat := by omega
    have e1 : N * 10 ^ z * (2 ^ (-t).toNat * 10 ^ b * 10 ^ (-e).toNat) = N * 10 ^ (z + b + (-e).toNat) * 2 ^ (-t).toNat := by rw [Nat.pow_add, Nat.pow_add]; grind
    rw [e1, hs, Nat.pow_add]; grind
  · unfold dQ
    rw [← Nat.mul_assoc, hV]; grind
theorem le_scale {A B A' B' s1 s2 : Nat} (h1 : 0 < s1) (h2 : 0 < s2) (hA : A * s1 = A' * s2) (hB : B * s1 = B' * s2) (h : A ≤ B) : A' ≤ B' := by
  apply Nat.le_of_mul_le_mul_right _ h2
  rw [← hA, ← hB]; exact Nat.mul_le_mul_right _ h
theorem lt_scale {A B A' B' s1 s2 : Nat} (h1 : 0 < s1) (h2 : 0 < s2) (hA : A * s1 = A' * s2) (hB : B * s1 = B' * s2) (h : A < B) : A' < B' := by
  apply Nat.lt_of_mul_lt_mul_right (a := s2)
  rw [← hA, ← hB]; exact Nat.mul_lt_mul_of_pos_right h h1
/-- The shortest decimal N by 10 to e (of n figures): within half a unit of M by 2 to t, and none with a figure less is. -/
def ShFin (M : Nat) (t : Int) (inc : Prop) (N n : Nat) (e : Int) : Prop :=
  dQ t e (M - 1) ≤ dP t e N ∧ dP t e N ≤ dQ t e (M + 1) ∧ (¬ inc → dQ t e (M - 1) < dP t e N ∧ dP t e N < dQ t e (M + 1)) ∧
    (2 ≤ n → dP t (e + 1) (N / 10) ≤ dQ t (e + 1) (M - 1) ∧ dQ t (e + 1) (M + 1) ≤ dP t (e + 1) (N / 10 + 1))
theorem short_final {M : Nat} {t x xl xu x' : Int} {inc : Prop} {ds ls us ds' : List Nat} (hD : DecPure M t ds x) (hL : DecPure (M - 1) t ls xl) (hU : DecPure (M + 1) t us xu) (h4 : 4 ≤ M) (hA : ShAll ds ls us x inc ds' x') :
    DOrd ds' ∧ ShFin M t inc (Nd ds') ds'.length (x' - ds'.length) := by
  obtain ⟨r, VD, VL, VU, h, a, b, S, hab, vL, vU⟩ := sh_set hD hL hU h4
  obtain ⟨⟨z, hz, p1, p2, p3, p4⟩, ho⟩ := S.all hA
  refine ⟨ho, ?_⟩
  obtain ⟨s1, s2, k1, k2, k3, k4⟩ := scale_pq (N := Nd ds') (e := x' - ds'.length) hab (z := z) (by omega) vL
  obtain ⟨t1, t2, j1, j2, j3, j4⟩ := scale_pq (N := Nd ds') (e := x' - ds'.length) hab (z := z) (by omega) vU
  refine ⟨le_scale k1 k2 k4 k3 p1, le_scale j1 j2 j3 j4 p2, fun hi => ⟨lt_scale k1 k2 k4 k3 (p3 hi).1, lt_scale j1 j2 j3 j4 (p3 hi).2⟩, fun hn => ?_⟩
  obtain ⟨q1, q2⟩ := p4 hn
  obtain ⟨s1, s2, k1, k2, k3, k4⟩ := scale_pq (N := Nd ds' / 10) (e := x' - ds'.length + 1) hab (z := z + 1) (by omega) vL
  obtain ⟨t1, t2, j1, j2, j3, j4⟩ := scale_pq (N := Nd ds' / 10 + 1) (e := x' - ds'.length + 1) hab (z := z + 1) (by omega) vU
  exact ⟨le_scale k1 k2 k3 k4 q1, le_scale j1 j2 j4 j3 q2⟩
/-- q by 2 to n, rounded to the nearest, of two to the even one. -/
def rhe (q n : Nat) : Nat := if 2 ^ n < 2 * (q % 2 ^ n) ∨ (2 * (q % 2 ^ n) = 2 ^ n ∧ q / 2 ^ n % 2 = 1) then q / 2 ^ n + 1 else q / 2 ^ n
theorem rhe_near {q n m : Nat} (h1 : (2 * m - 1) * 2 ^ n ≤ 2 * q) (h2 : 2 * q ≤ (2 * m + 1) * 2 ^ n) (h3 : m % 2 = 1 → (2 * m - 1) * 2 ^ n < 2 * q ∧ 2 * q < (2 * m + 1) * 2 ^ n) (hm : 0 < m) : rhe q n = m := by
  have hD := Nat.two_pow_pos n
  unfold rhe
  have hdm := Nat.div_add_mod q (2 ^ n)
  have hR := Nat.mod_lt q hD
  generalize q / 2 ^ n = Q at *
  generalize q % 2 ^ n = R at *
  generalize 2 ^ n = D at *
  obtain ⟨k, rfl⟩ : ∃ k, m = k + 1 := ⟨m - 1, by omega⟩
  have e1 : (2 * (k + 1) - 1) * D = 2 * (k * D) + D := by rw [show 2 * (k + 1) - 1 = 2 * k + 1 by omega]; grind
  have e2 : (2 * (k + 1) + 1) * D = 2 * (k * D) + 3 * D := by grind
  rw [e1] at h1 h3
  rw [e2] at h2 h3
  have e3 : D * Q = Q * D := Nat.mul_comm _ _
  rw [e3] at hdm
  have b1 : Q < k + 2 := Nat.lt_of_mul_lt_mul_right (a := D) (by rw [Nat.add_mul]; omega)
  have b2 : k < Q + 1 := Nat.lt_of_mul_lt_mul_right (a := D) (by rw [Nat.add_mul]; omega)
  rcases (show Q = k ∨ Q = k + 1 by omega) with rfl | rfl
  · by_cases hlt : D < 2 * R
    · rw [if_pos (.inl hlt)]
    · have he : 2 * R = D := by omega
      have ho : Q % 2 = 1 := by
        by_cases hk : (Q + 1) % 2 = 1
        · have := h3 hk; omega
        · omega
      rw [if_pos (.inr ⟨he, ho⟩)]
  · have e4 : (k + 1) * D = k * D + D := by rw [Nat.add_mul, Nat.one_mul]
    rw [e4] at hdm
    rw [if_neg]
    rintro (h | ⟨h, ho⟩)
    · omega
    · have := h3 ho; omega
/-- The last digit of a quotient that stands for all that is behind it. -/
theorem sticky_le {A B z : Nat} (hB : 0 < B) (h : A ≤ z * B) : 2 * (A / B) + (if A % B = 0 then 0 else 1) ≤ 2 * z := by
  have h1 := Nat.div_add_mod A B
  have h2 := Nat.mod_lt A hB
  generalize A / B = q at *
  generalize A % B = r at *
  rw [Nat.mul_comm] at h1
  have : q < z + 1 := Nat.lt_of_mul_lt_mul_right (a := B) (by rw [Nat.add_mul]; omega)
  by_cases hq : q = z
  · subst hq
    rw [if_pos (by omega)]; omega
  · split <;> omega
theorem sticky_lt {A B z : Nat} (hB : 0 < B) (h : A < z * B) : 2 * (A / B) + (if A % B = 0 then 0 else 1) < 2 * z := by
  have h1 := Nat.div_add_mod A B
  generalize A / B = q at *
  generalize A % B = r at *
  rw [Nat.mul_comm] at h1
  have : q < z := Nat.lt_of_mul_lt_mul_right (a := B) (by omega)
  split <;> omega
theorem sticky_ge {A B z : Nat} (hB : 0 < B) (h : z * B ≤ A) : 2 * z ≤ 2 * (A / B) + (if A % B = 0 then 0 else 1) := by
  have : z ≤ A / B := (Nat.le_div_iff_mul_le hB).2 h
  omega
theorem sticky_gt {A B z : Nat} (hB : 0 < B) (h : z * B < A) : 2 * z < 2 * (A / B) + (if A % B = 0 then 0 else 1) := by
  have h0 : z ≤ A / B := (Nat.le_div_iff_mul_le hB).2 (Nat.le_of_lt h)
  by_cases hq : A / B = z
  · have h1 := Nat.div_add_mod A B
    rw [hq, Nat.mul_comm] at h1
    rw [if_neg (by omega)]; omega
  · omega
/-- The quotient of Ahead. -/
def stq (A B : Nat) : Nat := 2 * (A / B) + (if A % B = 0 then 0 else 1)
/-- A value within half a unit is read as the number it came from. -/
theorem round_back {N k P m0 : Nat} {t e : Int} (hP : 0 < P) (h1 : 2 ^ (P - 1) < m0) (h2 : m0 < 2 ^ P)
    (hl : dQ t e (2 * m0 - 1) ≤ dP t e N) (hu : dP t e N ≤ dQ t e (2 * m0 + 1)) (hs : m0 % 2 = 1 → dQ t e (2 * m0 - 1) < dP t e N ∧ dP t e N < dQ t e (2 * m0 + 1))
    (hN : N * 10 ^ e.toNat ≠ 0) (hk : P + 2 + blen (10 ^ (-e).toNat) ≤ blen (N * 10 ^ e.toNat) + k) :
    ∃ s : Nat, (s : Int) = t + k + 2 ∧ 3 ≤ s ∧ blen (stq (N * 10 ^ e.toNat * 2 ^ k) (10 ^ (-e).toNat)) = P + s ∧ rhe (stq (N * 10 ^ e.toNat * 2 ^ k) (10 ^ (-e).toNat)) s = m0 := by
  unfold dP dQ at hl hu hs
  have hB := ten_pos (-e).toNat
  generalize N * 10 ^ e.toNat = a at *
  generalize 10 ^ (-e).toNat = B at *
  obtain ⟨_, a2, _⟩ := blen_spec hN
  obtain ⟨_, _, b3⟩ := blen_spec (x := B) (by omega)
  -- the quotient is long
  have hlong : B * 2 ^ (P + 1) < a * 2 ^ k := by
    have c1 : B * 2 ^ (P + 1) < 2 ^ blen B * 2 ^ (P + 1) := Nat.mul_lt_mul_of_pos_right b3 (Nat.two_pow_pos _)
    have c2 : 2 ^ (blen a - 1) * 2 ^ k ≤ a * 2 ^ k := Nat.mul_le_mul_right _ a2
    rw [← Nat.pow_add] at c1 c2
    have c3 : 2 ^ (blen B + (P + 1)) ≤ 2 ^ (blen a - 1 + k) := Nat.pow_le_pow_right (by decide) (by clear a2 b3 c1 c2; omega)
    omega
  obtain ⟨tp, htp⟩ : ∃ tp, tp = t.toNat := ⟨_, rfl⟩
  obtain ⟨tn, htn⟩ : ∃ tn, tn = (-t).toNat := ⟨_, rfl⟩
  rw [← htp, ← htn] at hl hu hs
  have hP2 : 2 ^ P = 2 * 2 ^ (P - 1) := by rw [Nat.mul_comm, ← Nat.pow_succ]; congr 1; omega
  -- t + k is above 0
  have htk : tn + 1 ≤ k + tp := by
    rcases Nat.lt_or_ge (k + tp) (tn + 1) with hlt | hge
    · exfalso
      have c1 : a * 2 ^ k * 2 ^ tn ≤ (2 * m0 + 1) * B * 2 ^ (k + tp) := by
        have := Nat.mul_le_mul_right (2 ^ k) hu
        have e1 : a * 2 ^ tn * 2 ^ k = a * 2 ^ k * 2 ^ tn := by grind
        have e2 : (2 * m0 + 1) * 2 ^ tp * B * 2 ^ k = (2 * m0 + 1) * B * 2 ^ (k + tp) := by rw [Nat.pow_add]; grind
        rw [e1, e2] at this; exact this
      have c2 : (2 * m0 + 1) * B * 2 ^ (k + tp) ≤ (2 * m0 + 1) * B * 2 ^ tn := Nat.mul_le_mul_left _ (Nat.pow_le_pow_right (by decide) (by omega))
      have c3 : a * 2 ^ k ≤ (2 * m0 + 1) * B := Nat.le_of_mul_le_mul_right (Nat.le_trans c1 c2) (Nat.two_pow_pos _)
      have c4 : (2 * m0 + 1) * B ≤ 2 ^ (P + 1) * B := Nat.mul_le_mul_right _ (by rw [Nat.pow_succ]; omega)
      rw [Nat.mul_comm (2 ^ (P + 1))] at c4
      omega
    · exact hge
  obtain ⟨u, hu'⟩ : ∃ u : Nat, (u : Int) = t + k := ⟨(t + k).toNat, by omega⟩
  have hu1 : 1 ≤ u := by omega
  have hut : u + tn = k + tp := by omega
  have conv : ∀ K, a * 2 ^ k * 2 ^ tp = a * 2 ^ k * 2 ^ tp → (K * 2 ^ u * B) * 2 ^ tn = (K * 2 ^ tp * B) * 2 ^ k ∧ (a * 2 ^ k) * 2 ^ tn = (a * 2 ^ tn) * 2 ^ k := fun K _ => by
    have e1 : (K * 2 ^ u * B) * 2 ^ tn = K * B * 2 ^ (u + tn) := by rw [Nat.pow_add]; grind
    have e2 : (K * 2 ^ tp * B) * 2 ^ k = K * B * 2 ^ (k + tp) := by rw [Nat.pow_add]; grind
    exact ⟨by rw [e1, e2, hut], by grind⟩
  have hpk := Nat.two_pow_pos k
  have hptn := Nat.two_pow_pos tn
  have L : (2 * m0 - 1) * 2 ^ u * B ≤ a * 2 ^ k := by
    obtain ⟨e1, e2⟩ := conv (2 * m0 - 1) rfl
    apply Nat.le_of_mul_le_mul_right _ hptn
    rw [e1, e2]; exact Nat.mul_le_mul_right _ hl
  have U : a * 2 ^ k ≤ (2 * m0 + 1) * 2 ^ u * B := by
    obtain ⟨e1, e2⟩ := conv (2 * m0 + 1) rfl
    apply Nat.le_of_mul_le_mul_right _ hptn
    rw [e1, e2]; exact Nat.mul_le_mul_right _ hu
  have LS : m0 % 2 = 1 → (2 * m0 - 1) * 2 ^ u * B < a * 2 ^ k := fun ho => by
    obtain ⟨e1, e2⟩ := conv (2 * m0 - 1) rfl
    apply Nat.lt_of_mul_lt_mul_right (a := 2 ^ tn)
    rw [e1, e2]; exact Nat.mul_lt_mul_of_pos_right (hs ho).1 hpk
  have US : m0 % 2 = 1 → a * 2 ^ k < (2 * m0 + 1) * 2 ^ u * B := fun ho => by
    obtain ⟨e1, e2⟩ := conv (2 * m0 + 1) rfl
    apply Nat.lt_of_mul_lt_mul_right (a := 2 ^ tn)
    rw [e1, e2]; exact Nat.mul_lt_mul_of_pos_right (hs ho).2 hpk
  have sL := sticky_ge hB L
  have sU := sticky_le hB U
  have sLS := fun ho => sticky_gt hB (LS ho)
  have sUS := fun ho => sticky_lt hB (US ho)
  have hst : stq (a * 2 ^ k) B = 2 * (a * 2 ^ k / B) + (if a * 2 ^ k % B = 0 then 0 else 1) := rfl
  rw [← hst] at sL sU sLS sUS
  generalize stq (a * 2 ^ k) B = q at *
  clear hst L U LS US hl hu hs conv hlong a2 b3 hN hk
  have e2 : 2 ^ (u + 2) = 2 ^ u * 4 := by rw [Nat.pow_add]
  refine ⟨u + 2, by omega, by omega, ?_, ?_⟩
  · have g1 : 2 ^ (P - 1) * 2 ^ (u + 2) ≤ q := by
      have : 2 ^ (P - 1) * 2 * 2 ^ u ≤ (2 * m0 - 1) * 2 ^ u := Nat.mul_le_mul_right _ (by omega)
      have e3 : 2 ^ (P - 1) * (2 ^ u * 4) = 2 * (2 ^ (P - 1) * 2 * 2 ^ u) := by grind
      rw [e2, e3]; omega
    have g2 : q < 2 ^ P * 2 ^ (u + 2) := by
      have : (2 * m0 + 1) * 2 ^ u < (2 ^ P * 2) * 2 ^ u := Nat.mul_lt_mul_of_pos_right (by omega) (Nat.two_pow_pos _)
      have e3 : 2 ^ P * (2 ^ u * 4) = 2 * (2 ^ P * 2 * 2 ^ u) := by grind
      rw [e2, e3]; omega
    rw [← Nat.pow_add] at g1 g2
    have := blen_of (x := q) (k := P - 1 + (u + 2)) g1 (by rw [show P - 1 + (u + 2) + 1 = P + (u + 2) by omega]; exact g2)
    omega
  · apply rhe_near _ _ _ (by omega)
    · rw [e2]
      have : (2 * m0 - 1) * (2 ^ u * 4) = 2 * (2 * ((2 * m0 - 1) * 2 ^ u)) := by grind
      rw [this]; omega
    · rw [e2]
      have : (2 * m0 + 1) * (2 ^ u * 4) = 2 * (2 * ((2 * m0 + 1) * 2 ^ u)) := by grind
      rw [this]; omega
    · intro ho
      have := sLS ho
      have := sUS ho
      rw [e2]
      have e5 : (2 * m0 + 1) * (2 ^ u * 4) = 2 * (2 * ((2 * m0 + 1) * 2 ^ u)) := by grind
      have e6 : (2 * m0 - 1) * (2 ^ u * 4) = 2 * (2 * ((2 * m0 - 1) * 2 ^ u)) := by grind
      rw [e5, e6]; omega
theorem Vb_div (l : List Nat) (hb : ∀ d ∈ l, d < 65536) : ∀ q, Vb l / 65536 ^ q = Vb (l.drop q)
  | 0 => by simp
  | q + 1 => by
    rw [Nat.pow_succ, ← Nat.div_div_eq_div_mul, Vb_div l hb q]
    rcases Nat.lt_or_ge q l.length with h | h
    · have hd : l.drop q = l[q] :: l.drop (q + 1) := List.drop_eq_getElem_cons h
      have := hb l[q] (List.getElem_mem h)
      rw [hd]; simp only [Vb]; omega
    · rw [List.drop_of_length_le h, List.drop_of_length_le (by omega)]; simp [Vb]
theorem Vb_two (l : List Nat) (q : Nat) : ∃ R, Vb (l.drop q) = l.getD q 0 + 65536 * (l.getD (q + 1) 0 + 65536 * R) := by
  rcases Nat.lt_or_ge q l.length with h | h
  · have hd : l.drop q = l[q] :: l.drop (q + 1) := List.drop_eq_getElem_cons h
    rcases Nat.lt_or_ge (q + 1) l.length with h2 | h2
    · have hd2 : l.drop (q + 1) = l[q + 1] :: l.drop (q + 1 + 1) := List.drop_eq_getElem_cons h2
      exact ⟨Vb (l.drop (q + 1 + 1)), by rw [hd, hd2, gd_lt h, gd_lt h2]; simp only [Vb]⟩
    · exact ⟨0, by rw [hd, List.drop_of_length_le h2, gd_lt h, gd_ge h2]; simp [Vb]⟩
  · exact ⟨0, by rw [List.drop_of_length_le h, gd_ge h, gd_ge (by omega)]; simp [Vb]⟩
/-- The digit at a bit of a number. -/
theorem Vb_bits {l : List Nat} (hb : ∀ d ∈ l, d < 65536) {q r : Nat} (hr : r < 16) : Vb l / 2 ^ (16 * q + r) % 65536 = (l.getD q 0 + 65536 * l.getD (q + 1) 0) / 2 ^ r % 65536 := by
  obtain ⟨R, hR⟩ := Vb_two l q
  rw [Nat.pow_add, Nat.pow_mul, show (2 : Nat) ^ 16 = 65536 by decide, ← Nat.div_div_eq_div_mul, Vb_div l hb q, hR]
  obtain ⟨t, ht⟩ : ∃ t, 65536 = 2 ^ r * t := ⟨2 ^ (16 - r), by rw [← Nat.pow_add, show r + (16 - r) = 16 by omega]⟩
  have e : l.getD q 0 + 65536 * (l.getD (q + 1) 0 + 65536 * R) = (l.getD q 0 + 65536 * l.getD (q + 1) 0) + 2 ^ r * (t * (65536 * R)) := by
    rw [← Nat.mul_assoc (2 ^ r), ← ht]; grind
  rw [e, Nat.add_mul_div_left _ _ (Nat.two_pow_pos r), show t * (65536 * R) = 65536 * (t * R) by grind, Nat.add_mul_mod_self_left]
theorem Vb_bit1 {l : List Nat} (hb : ∀ d ∈ l, d < 65536) {q r : Nat} (hr : r < 16) : Vb l / 2 ^ (16 * q + r) % 2 = l.getD q 0 / 2 ^ r % 2 := by
  have h := Vb_bits hb (q := q) hr
  have h1 : Vb l / 2 ^ (16 * q + r) % 2 = (l.getD q 0 + 65536 * l.getD (q + 1) 0) / 2 ^ r % 2 := by omega
  rw [h1]
  obtain ⟨t, ht⟩ : ∃ t, 65536 = 2 ^ r * (2 * t) := ⟨2 ^ (15 - r), by rw [show 2 * 2 ^ (15 - r) = 2 ^ (16 - r) by rw [Nat.mul_comm, ← Nat.pow_succ]; congr 1; omega, ← Nat.pow_add, show r + (16 - r) = 16 by omega]⟩
  have e : l.getD q 0 + 65536 * l.getD (q + 1) 0 = l.getD q 0 + 2 ^ r * (2 * t * l.getD (q + 1) 0) := by
    rw [← Nat.mul_assoc (2 ^ r), ← ht]
  rw [e, Nat.add_mul_div_left _ _ (Nat.two_pow_pos r), Nat.mul_assoc, Nat.add_mul_mod_self_left]
theorem and1i {a : Nat} (h : a < 4294967296) : bits BinOp.and .i64 (a : Int) 1 = ((a % 2 : Nat) : Int) := by
  have h1 : (BitVec.ofInt 64 (a : Int)).toNat = a := by
    rw [BitVec.ofInt_natCast, BitVec.toNat_ofNat]; exact Nat.mod_eq_of_lt (by omega)
  have h2 : (BitVec.ofInt 64 (1 : Int)).toNat = 1 := by decide
  show IntKind.i64.wrap ((BitVec.ofInt 64 (a : Int) &&& BitVec.ofInt 64 (1 : Int)).toNat : Int) = _
  rw [BitVec.toNat_and, h1, h2, show (1 : Nat) = 2 ^ 1 - 1 from rfl, Nat.and_two_pow_sub_one_eq_mod]
  exact IntWalk.i64_in _ (by omega)
theorem int_shr (a r : Nat) : (a : Int) / 2 ^ r = ((a / 2 ^ r : Nat) : Int) := by
  rw [show ((2 : Int) ^ r) = ((2 ^ r : Nat) : Int) from (Int.natCast_pow 2 r).symm]; rfl
set_option maxRecDepth 100000 in
set_option maxHeartbeats 1000000 in
theorem spec_Has (x : Value) (X n i : Nat) (w : World) (hx : Sn w x X) (hX : X < 65536 ^ n) (hn : n ≤ 10000) (hi : i ≤ 200000) :
    Calls Tryz.prog 65 #[x, .int .i64 i] w fun e w' => e = .returned (.bool (decide (X / 2 ^ i % 2 = 1))) ∧ Chg No w w' := by
  obtain ⟨la, A, ca, rfl, hca, hra, rfl, hda, hta⟩ := hx.view
  have hla := Sn_len hta hX
  clear hX hx
  obtain ⟨na, ena⟩ : ∃ na, na = la.length := ⟨_, rfl⟩
  rw [← ena] at hla hca ⊢
  obtain ⟨q, hq⟩ : ∃ q, q = i / 16 := ⟨_, rfl⟩
  obtain ⟨r, hr⟩ : ∃ r, r = i % 16 := ⟨_, rfl⟩
  have e1 : (i : Int) / 16 = (q : Int) := by omega
  have e2 : (i : Int) % 16 = (r : Int) := by omega
  have hr16 : r < 16 := by omega
  have HF := Vb_bit1 hda (q := q) hr16
  rw [show 16 * q + r = i by omega] at HF
  rcases Nat.lt_or_ge q na with hlt | hge
  · obtain ⟨ad, rfl, c1⟩ := hra q (by omega)
    obtain ⟨t, ht⟩ : ∃ t, t = la.getD q 0 := ⟨_, rfl⟩
    have htl : t < 65536 := by rw [ht]; exact dig_lt hda q
    rw [← ht] at c1 HF
    obtain ⟨u, hu⟩ : ∃ u, u = t / 2 ^ r := ⟨_, rfl⟩
    have e3 : (t : Int) / 2 ^ r = (u : Int) := by rw [int_shr, hu]
    have hul : u < 65536 := by rw [hu]; exact Nat.lt_of_le_of_lt (Nat.div_le_self _ _) htl
    obtain ⟨v, hv⟩ : ∃ v, v = u % 2 := ⟨_, rfl⟩
    have e4 : bits BinOp.and .i64 (u : Int) 1 = (v : Int) := by rw [and1i (by omega), hv]
    rw [← hu, ← hv] at HF
    have i1 : (q : Int) < na := by omega
    have hfin : decide (Vb la / 2 ^ i % 2 = 1) = ((v : Int) == 1) := by
      rw [HF]
      by_cases h : v = 1
      · subst h; rfl
      · rw [decide_eq_false h]; exact (beq_eq_false_iff_ne.2 (by omega)).symm
    rw [hfin]
    clear hfin HF hu hv hq hr ht ena hra hda hta
    go_enter Tryz.func65, Tryz.ntmps65
    go_wp2_with fail
    go_ret
    exact ⟨rfl, Chg.refl _ _⟩
  · have i1 : ¬ (q : Int) < na := by omega
    have t1 : decide (q < na) = false := decide_eq_false (by omega)
    rw [gd_ge (by omega)] at HF
    have hfin : decide (Vb la / 2 ^ i % 2 = 1) = false := by rw [HF]; simp
    rw [hfin]
    clear hfin HF hq hr ena hra hda hta hge
    go_enter Tryz.func65, Tryz.ntmps65
    go_wp2_with fail
    go_ret
    exact ⟨rfl, Chg.refl _ _⟩
/-- The state of Shr: the digits told so far. -/
def ShrInv (Y : Nat) (l : List Nat) : Prop := Vb l = Y % 65536 ^ l.length ∧ ∀ d ∈ l, d < 65536
theorem ShrInv.step {Y d : Nat} {l : List Nat} (h : ShrInv Y l) (hd : d = Y / 65536 ^ l.length % 65536) : ShrInv Y (l ++ [d]) := by
  refine ⟨?_, fun e he => ?_⟩
  · rw [Vb_snoc, h.1, List.length_append, List.length_singleton, Nat.mod_pow_succ, hd, Nat.mul_comm]
  · rcases List.mem_append.1 he with h' | h'
    · exact h.2 e h'
    · simp at h'; rw [h', hd]; exact Nat.mod_lt _ (by decide)
set_option maxRecDepth 100000 in
set_option maxHeartbeats 4000000 in
theorem spec_Shr (x : Value) (X n s : Nat) (w : World) (hx : Sn w x X) (hX : X < 65536 ^ n) (hn : n ≤ 10000) (hs : s ≤ 100000) :
    Calls Tryz.prog 66 #[x, .int .i64 s] w (SnOut (X / 2 ^ s) w) := by
  obtain ⟨ci, hi1, hi2, hi3, hi4⟩ := info_of info3
  obtain ⟨la, A, ca, rfl, hca, hra, rfl, hda, hta⟩ := hx.view
  have hla := Sn_len hta hX
  clear hX hx
  obtain ⟨na, ena⟩ : ∃ na, na = la.length := ⟨_, rfl⟩
  rw [← ena] at hla hca ⊢
  obtain ⟨q, hq⟩ : ∃ q, q = s / 16 := ⟨_, rfl⟩
  obtain ⟨r, hr⟩ : ∃ r, r = s % 16 := ⟨_, rfl⟩
  have e1 : (s : Int) / 16 = (q : Int) := by omega
  have e2 : (s : Int) % 16 = (r : Int) := by omega
  have hr16 : r < 16 := by omega
  have hq1 : q ≤ 10000 := by omega
  have HI : Hid (s = 16 * q + r) := Lib.hid (by omega)
  have HE := Lib.hid ena
  have HRA := Lib.hid hra
  have G0 := Lib.hid (Gr.start (Chg.refl No w) 3)
  clear hq hr ena hra hta
  go_enter Tryz.func66, Tryz.ntmps66
  go_wp2_with fail
  go_loopw [5, 6] (fun v iv wr => ∃ (j : Nat) (l : List Nat), iv = .int .i64 ((q + j : Nat) : Int) ∧ q + j ≤ q + na ∧ Hid (Gr w wr v (ints l)) ∧ Hid (ShrInv (Vb la / 2 ^ s) l) ∧ Hid (l.length = j) ∧ Hid (j = 0 ∨ q + j ≤ na)) (fun _ iv _ => (q + na + 1) - (intOf iv).toNat)
  case atStart => exact ⟨0, [], by simp, by omega, G0, Lib.hid ⟨by simp [Vb, Nat.mod_one], by simp⟩, Lib.hid rfl, Lib.hid (.inl rfl)⟩
  case round =>
    obtain ⟨j, l, rfl, hj, hG, hV, hL, hJ⟩ := hrel
    obtain ⟨i, hi⟩ : ∃ i, i = q + j := ⟨_, rfl⟩
    rw [← hi] at hj
    rw [show ((q + j : Nat) : Int) = (i : Int) by omega]
    by_cases hin : i < na
    · obtain ⟨ad, rfl, c1⟩ := (HRA.out.chg hG.out.1) i (by have := HE.out; omega)
      obtain ⟨u, hu⟩ : ∃ u, u = la.getD i 0 := ⟨_, rfl⟩
      have hul : u < 65536 := by rw [hu]; exact dig_lt hda i
      rw [← hu] at c1
      have hbit := Vb_bits hda (q := i) hr16
      rw [← hu] at hbit
      have hY : Vb la / 2 ^ s / 65536 ^ l.length = Vb la / 2 ^ (16 * i + r) := by
        rw [HI.out, hL.out, Nat.div_div_eq_div_mul, show (65536 : Nat) = 2 ^ 16 by decide, ← Nat.pow_mul, ← Nat.pow_add]; congr 2; omega
      have i1 : (i : Int) < na := by omega
      have HI2 := Lib.hid hi
      by_cases hin2 : i + 1 < na
      · obtain ⟨ad2, had2, c2⟩ := (HRA.out.chg hG.out.1) (i + 1) (by have := HE.out; omega)
        obtain rfl : ad = ad2 := by simpa using had2
        obtain ⟨u2, hu2⟩ : ∃ u2, u2 = la.getD (i + 1) 0 := ⟨_, rfl⟩
        have hul2 : u2 < 65536 := by rw [hu2]; exact dig_lt hda _
        rw [← hu2] at c2 hbit
        have c2 : wr.cell? ⟨ad.block, ad.off + (i + 1), none⟩ = some (.int .i64 (u2 : Nat)) := by rw [← c2]; simp [Addr.add]
        have i2 : (i : Int) + 1 < na := by omega
        obtain ⟨m2, hm2⟩ : ∃ m2, m2 = 65536 * u2 := ⟨_, rfl⟩
        have e3 : (65536 : Int) * (u2 : Int) = (m2 : Int) := by omega
        obtain ⟨x2, hx2⟩ : ∃ x2, x2 = u + m2 := ⟨_, rfl⟩
        have e4 : (u : Int) + (m2 : Int) = (x2 : Int) := by omega
        have hm2b : m2 < 4294967296 := by omega
        have hx2b : x2 < 8589934592 := by omega
        obtain ⟨y, hy⟩ : ∃ y, y = x2 / 2 ^ r := ⟨_, rfl⟩
        have e5 : (x2 : Int) / 2 ^ r = (y : Int) := by rw [int_shr, hy]
        obtain ⟨d, hd⟩ : ∃ d, d = y % 65536 := ⟨_, rfl⟩
        have e6 : (y : Int) % 65536 = (d : Int) := by omega
        have HD := Lib.hid (hV.out.step (d := d) (by rw [hY, hbit, hd, hy, hx2, hm2]))
        clear hu hu2 hm2 hx2 hy hd hbit hY hi had2 hV
        go_wp2_with (refine wpList_append_gr (w0 := w) rfl (.tmp 34) (.tmp 40) 29 3 rfl ci _ Tryz.underlying29 hi1 hi2 rfl (noWB_int 0) hi3 (by rw [hi4]; omega) _ (ints l) rfl hG.out (.int .i64 d) rfl 3 rfl (by have := hL.out; have := HI2.out; rw [ints_length]; omega) ?_; intro r2 w2 happ; have HA := Lib.hid happ; clear happ)
        go_roundw
        case rel => exact ⟨j + 1, l ++ [d], by have := HI2.out; go_num, by have := HI2.out; omega, Lib.hid (by rw [← ints_snoc]; exact HA.out), HD, Lib.hid (by have := hL.out; simp; omega), Lib.hid (.inr (by have := HI2.out; omega))⟩
        case measure => simp [intOf]; omega
      · rw [gd_ge (by have := HE.out; omega)] at hbit
        have i2 : ¬ (i : Int) + 1 < na := by omega
        obtain ⟨y, hy⟩ : ∃ y, y = u / 2 ^ r := ⟨_, rfl⟩
        have e5 : (u : Int) / 2 ^ r = (y : Int) := by rw [int_shr, hy]
        obtain ⟨d, hd⟩ : ∃ d, d = y % 65536 := ⟨_, rfl⟩
        have e6 : (y : Int) % 65536 = (d : Int) := by omega
        have HD := Lib.hid (hV.out.step (d := d) (by rw [hY, hbit, hd, hy]; simp))
        clear hu hy hd hbit hY hi hV
        go_wp2_with (refine wpList_append_gr (w0 := w) rfl (.tmp 34) (.tmp 40) 29 3 rfl ci _ Tryz.underlying29 hi1 hi2 rfl (noWB_int 0) hi3 (by rw [hi4]; omega) _ (ints l) rfl hG.out (.int .i64 d) rfl 3 rfl (by have := hL.out; have := HI2.out; rw [ints_length]; omega) ?_; intro r2 w2 happ; have HA := Lib.hid happ; clear happ)
        go_roundw
        case rel => exact ⟨j + 1, l ++ [d], by have := HI2.out; go_num, by have := HI2.out; omega, Lib.hid (by rw [← ints_snoc]; exact HA.out), HD, Lib.hid (by have := hL.out; simp; omega), Lib.hid (.inr (by have := HI2.out; omega))⟩
        case measure => simp [intOf]; omega
    · have i1 : ¬ (i : Int) < na := by omega
      have hval : Vb l = Vb la / 2 ^ s := by
        rw [hV.out.1]
        apply Nat.mod_eq_of_lt
        have h1 := Vb_lt hda
        rw [← HE.out] at h1
        rw [Nat.div_lt_iff_lt_mul (Nat.two_pow_pos s)]
        have h2 : 65536 ^ na ≤ 65536 ^ l.length * 2 ^ s := by
          rw [show (65536 : Nat) = 2 ^ 16 by decide, ← Nat.pow_mul, ← Nat.pow_mul, ← Nat.pow_add]
          exact Nat.pow_le_pow_right (by decide) (by have := HI.out; have := hL.out; omega)
        omega
      have HVA := Lib.hid hval
      obtain ⟨b, c, rfl, -⟩ := hG.out.2
      have HT := Lib.hid (spec_trim _ l wr hG.out.sl hV.out.2 (by have := hL.out; omega))
      clear hi hval
      go_wp2_with fail
      refine HT.out.mono ?_
      rintro e w3 ⟨r2, rfl, hr2, rfl⟩
      have HR := Lib.hid hr2
      clear hr2
      go_wp2_with fail
      go_ret
      exact ⟨_, rfl, by rw [← HVA.out]; exact HR.out, hG.out.1⟩
/-- How often 2 divides. -/
theorem odd_step {X n : Nat} (h : 2 ^ n ∣ X) (hb : X / 2 ^ n % 2 ≠ 1) : 2 ^ (n + 1) ∣ X := by
  obtain ⟨k, rfl⟩ := h
  rw [Nat.mul_div_cancel_left _ (Nat.two_pow_pos n)] at hb
  exact ⟨k / 2, by rw [Nat.pow_succ, Nat.mul_assoc]; congr 1; omega⟩
/-- A number without its divisors 2, and how many these are. -/
def OddOut (X : Nat) (w : World) (e : Ending) (w' : World) : Prop := ∃ r m k, e = .returned (.tuple #[r, .int .i64 (k : Nat)]) ∧ Sn w' r m ∧ X = m * 2 ^ k ∧ m % 2 = 1 ∧ k < blen X ∧ Chg No w w'
set_option maxRecDepth 100000 in
set_option maxHeartbeats 2000000 in
theorem spec_Odd (x : Value) (X n : Nat) (w : World) (hx : Sn w x X) (hX : X < 65536 ^ n) (hn : n ≤ 1000) (hX0 : X ≠ 0) :
    Calls Tryz.prog 27 #[x] w (OddOut X w) := by
  obtain ⟨xA, xn, xc, rfl⟩ : ∃ A n c, x = .slice A n c := by obtain ⟨l, A, c, e, _⟩ := hx.view; exact ⟨_, _, _, e⟩
  have hbl := blen_le (P := 16 * n) hX0 (by rw [Nat.pow_mul]; exact hX)
  obtain ⟨bX, hbX⟩ : ∃ bX, bX = blen X := ⟨_, rfl⟩
  rw [← hbX] at hbl
  have HX := Lib.hid (And.intro hx (And.intro hX hX0))
  have HB := Lib.hid hbX
  have HK : Hid (∀ k, 2 ^ k ∣ X → k < bX) := Lib.hid fun k hk => by
    have h1 := Nat.le_of_dvd (Nat.pos_of_ne_zero hX0) hk
    have h2 := (blen_spec hX0).2.2
    rw [← hbX] at h2
    exact (Nat.pow_lt_pow_iff_right (by decide)).1 (Nat.lt_of_le_of_lt h1 h2)
  clear hx hX hX0 hbX
  go_enter Tryz.func27, Tryz.ntmps27
  go_wp2_with fail
  go_loopw [4] (fun kv wr => ∃ k : Nat, kv = .int .i64 k ∧ k < bX ∧ Hid (2 ^ k ∣ X) ∧ Hid (Chg No w wr)) (fun kv _ => bX - (intOf kv).toNat)
  case atStart => exact ⟨0, rfl, HK.out 0 (by simp), Lib.hid (by simp), Lib.hid (Chg.refl _ _)⟩
  case round =>
    obtain ⟨k, rfl, hk, hD, hC⟩ := hrel
    have H1 := Lib.hid (spec_Has _ X n k wr (HX.out.1.chg hC.out) HX.out.2.1 (by omega) (by omega))
    by_cases hbit : X / 2 ^ k % 2 = 1
    · have H1 := Lib.hid (by have h := H1.out; rwa [decide_eq_true hbit] at h)
      have HBT := Lib.hid hbit
      clear hbit
      go_wp2_with fail
      refine H1.out.mono ?_
      rintro e w1 ⟨rfl, hc1⟩
      have HC1 := Lib.hid (hC.out.then hc1 (fun _ _ _ f => f))
      have H2 := Lib.hid (spec_Shr _ X n k w1 (HX.out.1.chg HC1.out) HX.out.2.1 (by omega) (by omega))
      clear hc1
      go_wp2_with fail
      refine H2.out.mono ?_
      rintro e w2 ⟨r, rfl, hr, hc2⟩
      have HR := Lib.hid hr
      have HC2 := Lib.hid (HC1.out.then hc2 (fun _ _ _ f => f))
      clear hr hc2
      go_wp2_with fail
      go_ret2
      exact ⟨_, _, k, rfl, HR.out, (Nat.div_mul_cancel hD.out).symm, HBT.out, by rw [← HB.out]; exact hk, HC2.out⟩
    · have H1 := Lib.hid (by have h := H1.out; rwa [decide_eq_false hbit] at h)
      have HN := Lib.hid (odd_step hD.out hbit)
      have hk2 := HK.out _ HN.out
      clear hbit
      go_wp2_with fail
      refine H1.out.mono ?_
      rintro e w1 ⟨rfl, hc1⟩
      have HC1 := Lib.hid (hC.out.then hc1 (fun _ _ _ f => f))
      clear hc1
      go_wp2_with fail
      go_roundw
      case rel => exact ⟨k + 1, by go_num, hk2, HN, HC1⟩
      case measure => simp [intOf]; omega
/-- The number that a spec.Nat holds, read off the memory. -/
def snVal (w : World) : Value → Nat
  | .slice (some ad) n _ => Vb ((List.range n).map fun i => match w.cell? (ad.add i) with | some (.int _ k) => k.toNat | _ => 0)
  | _ => 0
theorem snVal_of {w : World} {v : Value} {X : Nat} (h : Sn w v X) : snVal w v = X := by
  obtain ⟨l, A, c, rfl, hle, hr, rfl, hd, ht⟩ := h.view
  rcases Nat.eq_zero_or_pos l.length with h0 | h0
  · have : l = [] := List.length_eq_zero_iff.1 h0
    subst this
    cases A <;> simp [snVal, Vb]
  · obtain ⟨ad, rfl, _⟩ := hr 0 h0
    simp only [snVal]
    congr 1
    apply List.ext_getElem
    · simp
    · intro i h1 h2
      simp only [List.getElem_map, List.getElem_range]
      obtain ⟨ad', e, hc⟩ := hr i h2
      obtain rfl : ad = ad' := by simpa using e
      rw [hc, gd_lt h2]; simp
theorem Sn.zero_len {w : World} {A : Option Addr} {m c X : Nat} (h : Sn w (.slice A m c) X) : (m = 0 ↔ X = 0) := by
  obtain ⟨l, A', c', e, hle, hr, rfl, hd, ht⟩ := h.view
  cases e
  constructor
  · intro h0
    have : l = [] := List.length_eq_zero_iff.1 h0
    subst this; rfl
  · intro h0
    rcases Nat.eq_zero_or_pos l.length with h | h
    · exact h
    · have h1 := Vb_ge ht h
      have := Nat.pow_pos (n := l.length - 1) (show 0 < 65536 by decide)
      omega
set_option maxRecDepth 100000 in
set_option maxHeartbeats 2000000 in
theorem spec_Gcd (x y : Value) (X Y n : Nat) (w : World) (hx : Sn w x X) (hy : Sn w y Y) (hX : X < 65536 ^ n) (hY : Y < 65536 ^ n) (hn : n ≤ 1000) :
    Calls Tryz.prog 85 #[x, y] w (SnOut (Nat.gcd X Y) w) := by
  have HX := Lib.hid hx
  have HY := Lib.hid hy
  have HB := Lib.hid (And.intro hX hY)
  clear hx hy hX hY
  go_enter Tryz.func85, Tryz.ntmps85
  go_wp2_with fail
  go_loopw [0, 1] (fun av bv wr => ∃ a b : Nat, ∃ bA bm bc, bv = .slice bA bm bc ∧ Hid (Sn wr av a) ∧ Hid (Sn wr (.slice bA bm bc) b) ∧ Hid (Nat.gcd a b = Nat.gcd X Y) ∧ Hid (a < 65536 ^ n) ∧ Hid (b < 65536 ^ n) ∧ Hid (Chg No w wr)) (fun _ bv wr => snVal wr bv)
  case atStart =>
    obtain ⟨l, A, c, rfl, _⟩ := HY.out.view
    exact ⟨X, Y, A, l.length, c, rfl, HX, HY, Lib.hid rfl, Lib.hid HB.out.1, Lib.hid HB.out.2, Lib.hid (Chg.refl _ _)⟩
  case round =>
    obtain ⟨a, b, bA, bm, bc, rfl, hA, hB, hG, ha, hb, hC⟩ := hrel
    have hz := hB.out.zero_len
    by_cases hb0 : b = 0
    · obtain rfl : bm = 0 := hz.2 hb0
      have HE := Lib.hid hb0
      clear hz hb0
      go_wp2_with fail
      go_ret
      refine ⟨_, rfl, ?_, hC.out⟩
      have h := hG.out
      rw [HE.out, Nat.gcd_zero_right] at h
      rw [← h]; exact hA.out
    · have hm0 : bm ≠ 0 := fun h => hb0 (hz.1 h)
      have i1 : (0 : Int) < bm := by omega
      have H1 := Lib.hid (spec_DivMod _ _ a b n wr hA.out hB.out ha.out hb.out hb0 hn)
      have HV := Lib.hid (snVal_of hB.out)
      have HN := Lib.hid hb0
      clear hz hb0
      go_wp2_with fail
      refine H1.out.mono ?_
      rintro e w1 ⟨q, r, rfl, hq, hr, hc1⟩
      have HR := Lib.hid hr
      have HC1 := Lib.hid (hC.out.then hc1 (fun _ _ _ f => f))
      have HB1 := Lib.hid (hB.out.chg hc1)
      obtain ⟨rl, rA, rc, rfl, _⟩ := hr.view
      clear hq hr hc1
      go_wp2_with fail
      go_roundw
      case rel => exact ⟨b, a % b, _, _, _, rfl, HB1, HR, Lib.hid (by rw [← hG.out, Nat.gcd_comm a b, Nat.gcd_rec b a, Nat.gcd_comm]), hb, Lib.hid (Nat.lt_trans (Nat.mod_lt _ (Nat.pos_of_ne_zero HN.out)) hb.out), HC1⟩
      case measure =>
        rw [HV.out, snVal_of HR.out]
        exact Nat.mod_lt _ (Nat.pos_of_ne_zero HN.out)
/-- A block of cells that nothing but its owner writes. -/
def Bk (W : World) (b : Nat) (us : Array Value) : Prop := ∃ t, W.heap[b]? = some (.cells us t (0, 0))
theorem Bk.new (w : World) (us : Array Value) (t : TypeId) : Bk (w.alloc (.cells us t)) w.heap.size us := ⟨t, by show (w.heap.push _)[w.heap.size]? = _; simp⟩
theorem Bk.plain {W : World} {b : Nat} {us : Array Value} (h : Bk W b us) : Plain W b := ⟨_, _, h.choose_spec⟩
theorem Bk.lt {W : World} {b : Nat} {us : Array Value} (h : Bk W b us) : b < W.heap.size := h.plain.lt
theorem Bk.cell {W : World} {b : Nat} {us : Array Value} (h : Bk W b us) (o : Nat) : W.cell? ⟨b, o, none⟩ = us[o]? := by
  obtain ⟨t, h⟩ := h
  simp [World.cell?, h]
theorem Bk.chg {S : Nat → Nat → Prop} {W W' : World} {b : Nat} {us : Array Value} (h : Bk W b us) (hc : Chg S W W') (hS : ∀ o, ¬ S b o) : Bk W' b us := by
  have hb := h.lt
  obtain ⟨t, h⟩ := h
  exact ⟨t, (hc.block _ hb hS).trans h⟩
theorem Bk.set {W : World} {b : Nat} {us : Array Value} (h : Bk W b us) (o : Nat) (v : Value) : Bk (W.setCell ⟨b, o, none⟩ v) b (us.setIfInBounds o v) := by
  obtain ⟨t, h⟩ := h
  exact ⟨t, by simp [World.setCell, Array.getElem?_modify, h]⟩
theorem Bk.set_chg {W : World} {b : Nat} {us : Array Value} {u : Value} (h : Bk W b us) (o : Nat) (v : Value) (hu : us[o]? = some u) (hn : NoWB u) : Chg (Blk b) W (W.setCell ⟨b, o, none⟩ v) :=
  (Chg.refl (Blk b) W).setO v ((h.cell o).trans hu) hn.1 hn.2 (fun _ => rfl)
theorem noWB_bool (b : Bool) : NoWB (.bool b) := ⟨by simp, by simp⟩
theorem noWB_slice (A : Option Addr) (n c : Nat) : NoWB (.slice A n c) := ⟨by simp, by simp⟩
/-- A spec.Nat does not lie in a block that holds no number but 0. -/
theorem Bk.safe {W : World} {b : Nat} {us : Array Value} (h : Bk W b us) (hz : ∀ (o : Nat) (n : Int), us[o]? = some (Value.int .i64 n) → n = 0) {v : Value} {X : Nat} (hv : Sn W v X) : ∀ (ad : Addr) (n c : Nat), v = .slice (some ad) n c → n = 0 ∨ ad.block ≠ b := by
  intro ad n c e
  obtain ⟨l, A, c', rfl, hle, hr, _, hd, ht⟩ := hv.view
  cases e
  rcases Nat.eq_zero_or_pos l.length with h0 | h0
  · exact .inl h0
  · right
    rintro rfl
    obtain ⟨ad', e, hc⟩ := hr (l.length - 1) (by omega)
    obtain rfl : ad = ad' := by simpa using e
    obtain ⟨t, hb⟩ := h
    have hb' : (ad.add (l.length - 1)).block = ad.block := by unfold Addr.add; split <;> rfl
    unfold World.cell? at hc
    rw [hb', hb] at hc
    simp only at hc
    split at hc
    · cases hc
    · have := hz _ _ hc
      have hn := ht.resolve_left (by omega)
      omega
/-- A spec.Nat stays what it is when another block is written. -/
theorem Sn.other {w w' : World} {v : Value} {X : Nat} {b : Nat} (h : Sn w v X) (hc : Chg (Blk b) w w') (hd : ∀ (ad : Addr) (n c : Nat), v = .slice (some ad) n c → n = 0 ∨ ad.block ≠ b) : Sn w' v X := by
  obtain ⟨l, h1, h2⟩ := h
  exact ⟨l, h1.chgB hc (fun ad n c e => (hd ad n c e).imp id (fun h o f => h f)), h2⟩
/-- A spec.Nat lies in old blocks. -/
theorem Sn.old {w : World} {v : Value} {X : Nat} {b : Nat} (h : Sn w v X) (hb : w.heap.size ≤ b) : ∀ (ad : Addr) (n c : Nat), v = .slice (some ad) n c → n = 0 ∨ ad.block ≠ b := by
  intro ad n c e
  obtain ⟨l, A, c', rfl, hle, hr, _, hd, ht⟩ := h.view
  cases e
  rcases Nat.eq_zero_or_pos l.length with h0 | h0
  · exact .inl h0
  · right
    rintro rfl
    obtain ⟨ad', e, hc⟩ := hr 0 h0
    obtain rfl : ad = ad' := by simpa using e
    have := World.block_lt_of_cell? _ _ hc
    rw [show ad.add 0 = ad by unfold Addr.add; simp] at this
    omega
/-- Three cells stored. -/
def st3 (W : World) (b : Nat) (v0 v1 v2 : Value) : World := ((W.setCell ⟨b, 0, none⟩ v0).setCell ⟨b, 1, none⟩ v1).setCell ⟨b, 2, none⟩ v2
theorem Bk.st3 {W : World} {b : Nat} {u0 u1 u2 : Value} (h : Bk W b #[u0, u1, u2]) (v0 v1 v2 : Value) : Bk (st3 W b v0 v1 v2) b #[v0, v1, v2] := by
  have := ((h.set 0 v0).set 1 v1).set 2 v2
  simpa [Go.Proofs.YtacfhndledcmgaaGreatDoor.st3] using this
theorem Bk.st3_chg {W : World} {b : Nat} {u0 u1 u2 : Value} (h : Bk W b #[u0, u1, u2]) (n0 : NoWB u0) (n1 : NoWB u1) (n2 : NoWB u2) (v0 v1 v2 : Value) : Chg (Blk b) W (Go.Proofs.YtacfhndledcmgaaGreatDoor.st3 W b v0 v1 v2) := by
  have k0 := h.set_chg (u := u0) 0 v0 rfl n0
  have h0 := h.set 0 v0
  have k1 := h0.set_chg (u := u1) 1 v1 (by simp) n1
  have h1 := h0.set 1 v1
  have k2 := h1.set_chg (u := u2) 2 v2 (by simp) n2
  exact (k0.then k1 (fun _ _ _ f => f)).then k2 (fun _ _ _ f => f)
theorem load31 (W : World) (b : Nat) (v0 v1 v2 : Value) (h : Bk W b #[v0, v1, v2]) : (loadVar 31 ⟨b, 0, none⟩).run Tryz.prog W = .ok (.agg #[v0, v1, v2]) W := by
  have c0 := h.cell 0
  have c1 := h.cell 1
  have c2 := h.cell 2
  have h1 := Tryz.isAgg31
  have h2 := Tryz.sizeOf31
  simp only [List.getElem?_toArray] at c0 c1 c2
  go_simp
theorem load47' (W : World) (b : Nat) (v0 v1 v2 : Value) (h : Bk W b #[v0, v1, v2]) : (loadVar 47 ⟨b, 0, none⟩).run Tryz.prog W = .ok (.agg #[v0, v1, v2]) W :=
  load47 W b v0 v1 v2 (h.cell 0) (h.cell 1) (h.cell 2)
theorem zero31 : ∀ (o : Nat) (n : Int), (#[Value.bool false, .slice none 0 0, .slice none 0 0] : Array Value)[o]? = some (Value.int .i64 n) → n = 0 := by
  intro o n h
  match o with
  | 0 | 1 | 2 => simp at h
  | o + 3 => simp at h
theorem zero47 : ∀ (o : Nat) (n : Int), (#[Value.bool false, .slice none 0 0, .int .i64 0] : Array Value)[o]? = some (Value.int .i64 n) → n = 0 := by
  intro o n h
  match o with
  | 0 | 1 => simp at h
  | 2 => simp at h; omega
  | o + 3 => simp at h
/-- A fraction told: of the value X by Y, its sign as given. -/
def OvOut (neg : Bool) (X Y : Nat) (w : World) (e : Ending) (w' : World) : Prop :=
  ∃ a b : Value, ∃ A B : Nat, e = .returned (.agg #[.bool (neg && decide (X ≠ 0)), a, b]) ∧ Sn w' a A ∧ Sn w' b B ∧ A * Y = X * B ∧ B ≠ 0 ∧ A ≤ X ∧ B ≤ Y ∧ Chg No w w'
set_option maxRecDepth 100000 in
set_option maxHeartbeats 2000000 in
theorem spec_Over (neg : Bool) (x y : Value) (X Y n : Nat) (w : World) (hx : Sn w x X) (hy : Sn w y Y) (hX : X < 65536 ^ n) (hY : Y < 65536 ^ n) (hY0 : Y ≠ 0) (hn : n ≤ 1000) :
    Calls Tryz.prog 78 #[.bool neg, x, y] w (OvOut neg X Y w) := by
  obtain ⟨xA, xn, xc, rfl⟩ : ∃ A n c, x = .slice A n c := by obtain ⟨l, A, c, e, _⟩ := hx.view; exact ⟨_, _, _, e⟩
  have hzx := hx.zero_len
  have k0 := (Chg.refl No w).alloc (.cells #[.bool false, .slice none 0 0, .slice none 0 0] 31)
  have HB0 := Lib.hid (Bk.new w #[.bool false, .slice none 0 0, .slice none 0 0] 31)
  have H1 := Lib.hid (spec_Gcd _ y X Y n _ (hx.chg k0) (hy.chg k0) hX hY hn)
  obtain ⟨g, hg⟩ : ∃ g, g = Nat.gcd X Y := ⟨_, rfl⟩
  have hg0 : g ≠ 0 := by rw [hg]; exact Nat.gcd_ne_zero_right hY0
  have hgY : g ≤ Y := by rw [hg]; exact Nat.gcd_le_right _ (Nat.pos_of_ne_zero hY0)
  rw [← hg] at H1
  have K0 := Lib.hid k0
  have HX := Lib.hid (And.intro hx (And.intro hX hzx))
  have HY := Lib.hid (And.intro hy (And.intro hY hY0))
  have HG := Lib.hid (And.intro hg (And.intro hg0 (Nat.lt_of_le_of_lt hgY hY)))
  clear hx hy hX hY hY0 hg hg0 hgY k0 hzx
  go_enter Tryz.func78, Tryz.ntmps78
  go_wp2_with fail
  refine H1.out.mono ?_
  rintro e w1 ⟨gv, rfl, hgv, hc1⟩
  have K1 := K0.out.then hc1 (fun _ _ _ f => f)
  have HGV := Lib.hid hgv
  have HB1 := Lib.hid (HB0.out.chg hc1 (fun _ f => f))
  have H2 := Lib.hid (spec_DivMod _ gv X g n w1 (HX.out.1.chg K1) hgv HX.out.2.1 HG.out.2.2 HG.out.2.1 hn)
  have HK1 := Lib.hid K1
  clear hgv hc1 K1
  go_wp2_with fail
  refine H2.out.mono ?_
  rintro e w2 ⟨q, r, rfl, hq, -, hc2⟩
  have K2 := HK1.out.then hc2 (fun _ _ _ f => f)
  have HQ := Lib.hid hq
  obtain ⟨qA, qn, qc, rfl⟩ : ∃ A n c, q = .slice A n c := by obtain ⟨l, A, c, e, _⟩ := hq.view; exact ⟨_, _, _, e⟩
  have HB2 := Lib.hid (HB1.out.chg hc2 (fun _ f => f))
  have H3 := Lib.hid (spec_DivMod _ gv Y g n w2 (HY.out.1.chg K2) (HGV.out.chg hc2) HY.out.2.1 HG.out.2.2 HG.out.2.1 hn)
  have HK2 := Lib.hid K2
  clear hq hc2 K2
  go_wp2_with fail
  refine H3.out.mono ?_
  rintro e w3 ⟨p, r3, rfl, hp, -, hc3⟩
  have HK3 := Lib.hid (HK2.out.then hc3 (fun _ _ _ f => f))
  have HQ3 := Lib.hid (HQ.out.chg hc3)
  have HP := Lib.hid hp
  obtain ⟨pA, pn, pc, rfl⟩ : ∃ A n c, p = .slice A n c := by obtain ⟨l, A, c, e, _⟩ := hp.view; exact ⟨_, _, _, e⟩
  have hb3 := HB2.out.chg hc3 (fun _ f => f)
  have HB3 := Lib.hid hb3
  have b0 := hb3.cell 0
  have b1 := hb3.cell 1
  have b2 := hb3.cell 2
  simp only [List.getElem?_toArray] at b0 b1 b2
  have f0 := hb3.plain.free 0
  have f1 := hb3.plain.free 1
  have f2 := hb3.plain.free 2
  clear hp hc3 hb3
  have fin : ∀ nb, nb = (neg && decide (X ≠ 0)) → OvOut neg X Y w (.returned (.agg #[.bool nb, .slice qA qn qc, .slice pA pn pc])) (st3 w3 w.heap.size (.bool nb) (.slice qA qn qc) (.slice pA pn pc)) := by
    rintro nb rfl
    have ks := HB3.out.st3_chg (noWB_bool _) (noWB_slice _ _ _) (noWB_slice _ _ _) (.bool (neg && decide (X ≠ 0))) (.slice qA qn qc) (.slice pA pn pc)
    refine ⟨_, _, X / g, Y / g, rfl, HQ3.out.other ks (HB3.out.safe zero31 HQ3.out), HP.out.other ks (HB3.out.safe zero31 HP.out), ?_, ?_, Nat.div_le_self _ _, Nat.div_le_self _ _, HK3.out.then ks (fun y o hy f => by have h : y = w.heap.size := f; omega)⟩
    · have h1 : X / g * g = X := Nat.div_mul_cancel (by rw [HG.out.1]; exact Nat.gcd_dvd_left _ _)
      have h2 : Y / g * g = Y := Nat.div_mul_cancel (by rw [HG.out.1]; exact Nat.gcd_dvd_right _ _)
      generalize X / g = a at *
      generalize Y / g = b at *
      rw [← h1, ← h2]; grind
    · have h2 : Y / g * g = Y := Nat.div_mul_cancel (by rw [HG.out.1]; exact Nat.gcd_dvd_right _ _)
      intro h0
      rw [h0, Nat.zero_mul] at h2
      exact HY.out.2.2 h2.symm
  have Fin := Lib.hid fin
  clear fin
  cases neg
  · go_wp2_with fail
    refine bodyPost_ret (v := .agg #[.bool false, .slice qA qn qc, .slice pA pn pc]) ?_ rfl (Fin.out false rfl)
    have hres : Tryz.f78.results = #[.cell 6 31] := rfl
    simp [results, hres, asAddr]
    exact load31 _ _ _ _ _ (HB3.out.st3 _ _ _)
  · by_cases hX0 : X = 0
    · obtain rfl : xn = 0 := HX.out.2.2.2 hX0
      have HF := Fin.out false (by rw [hX0]; rfl)
      clear hX0
      go_wp2_with fail
      refine bodyPost_ret (v := .agg #[.bool false, .slice qA qn qc, .slice pA pn pc]) ?_ rfl HF
      have hres : Tryz.f78.results = #[.cell 6 31] := rfl
      simp [results, hres, asAddr]
      exact load31 _ _ _ _ _ (HB3.out.st3 _ _ _)
    · have hxn : xn ≠ 0 := fun h => hX0 (HX.out.2.2.1 h)
      have i1 : (0 : Int) < xn := by omega
      have tb : decide (0 < xn) = true := decide_eq_true (by omega)
      have HF := Fin.out true (by simp [hX0])
      clear hX0 hxn
      go_wp2_with fail
      refine bodyPost_ret (v := .agg #[.bool true, .slice qA qn qc, .slice pA pn pc]) ?_ rfl HF
      have hres : Tryz.f78.results = #[.cell 6 31] := rfl
      simp [results, hres, asAddr]
      exact load31 _ _ _ _ _ (HB3.out.st3 _ _ _)
/-- What is told of the difference of two fractions. -/
def PlOut (A1 B1 A2 B2 : Nat) (w : World) (e : Ending) (w' : World) : Prop :=
  ∃ (nb : Bool) (a b : Value) (A B : Nat), e = .returned (.agg #[.bool nb, a, b]) ∧ Sn w' a A ∧ Sn w' b B ∧ B ≠ 0 ∧ B ≤ B1 * B2 ∧ A ≤ A1 * B2 + A2 * B1 ∧
    (A2 * B1 ≤ A1 * B2 → nb = false ∧ A * (B1 * B2) = (A1 * B2 - A2 * B1) * B) ∧ (A1 * B2 < A2 * B1 → nb = true ∧ A * (B1 * B2) = (A2 * B1 - A1 * B2) * B) ∧ Chg No w w'
theorem cmp3_ge {x y : Nat} (h : y ≤ x) : 0 ≤ cmp3 x y := by
  unfold cmp3; rw [if_neg (by omega)]; split <;> omega
theorem mul_bound {X Y n : Nat} (hX : X < 65536 ^ n) (hY : Y < 65536 ^ n) : X * Y < 65536 ^ (2 * n) := by
  rw [Nat.two_mul, Nat.pow_add]
  exact Nat.mul_lt_mul'' hX hY
set_option maxRecDepth 100000 in
set_option maxHeartbeats 4000000 in
theorem spec_Plus (aA : Option Addr) (an ac : Nat) (bA : Option Addr) (bn bc : Nat) (cA : Option Addr) (cn cc : Nat) (dA : Option Addr) (dn dc : Nat) (A1 B1 A2 B2 n : Nat) (w : World)
    (h1 : Sn w (.slice aA an ac) A1) (h2 : Sn w (.slice bA bn bc) B1) (h3 : Sn w (.slice cA cn cc) A2) (h4 : Sn w (.slice dA dn dc) B2)
    (l1 : A1 < 65536 ^ n) (l2 : B1 < 65536 ^ n) (l3 : A2 < 65536 ^ n) (l4 : B2 < 65536 ^ n) (hB1 : B1 ≠ 0) (hB2 : B2 ≠ 0) (hn : n ≤ 500) :
    Calls Tryz.prog 79 #[.agg #[.bool false, .slice aA an ac, .slice bA bn bc], .agg #[.bool true, .slice cA cn cc, .slice dA dn dc]] w (PlOut A1 B1 A2 B2 w) := by
  have HW : Hid (∀ W, W = ((w.alloc (.cells #[.bool false, .slice aA an ac, .slice bA bn bc] 31)).alloc (.cells #[.bool true, .slice cA cn cc, .slice dA dn dc] 31)).alloc (.cells #[.bool false, .slice none 0 0, .slice none 0 0] 31) →
      Bk W w.heap.size #[.bool false, .slice aA an ac, .slice bA bn bc] ∧ Bk W (w.heap.size + 1) #[.bool true, .slice cA cn cc, .slice dA dn dc] ∧ Bk W (w.heap.size + 1 + 1) #[.bool false, .slice none 0 0, .slice none 0 0] ∧ Chg No w W) := by
    apply Lib.hid
    rintro W rfl
    have g1 := Bk.new w #[.bool false, .slice aA an ac, .slice bA bn bc] 31
    generalize hw1 : w.alloc (.cells #[.bool false, .slice aA an ac, .slice bA bn bc] 31) = w1 at *
    have s1 : w1.heap.size = w.heap.size + 1 := by rw [← hw1]; simp
    have k1 : Chg No w w1 := by rw [← hw1]; exact (Chg.refl No w).alloc _
    have g2 := Bk.new w1 #[.bool true, .slice cA cn cc, .slice dA dn dc] 31
    have k2 := (Chg.refl No w1).alloc (.cells #[.bool true, .slice cA cn cc, .slice dA dn dc] 31)
    generalize hw2 : w1.alloc (.cells #[.bool true, .slice cA cn cc, .slice dA dn dc] 31) = w2 at *
    have s2 : w2.heap.size = w1.heap.size + 1 := by rw [← hw2]; simp
    have g3 := Bk.new w2 #[.bool false, .slice none 0 0, .slice none 0 0] 31
    have k3 := (Chg.refl No w2).alloc (.cells #[.bool false, .slice none 0 0, .slice none 0 0] 31)
    rw [s2, s1] at g3
    rw [s1] at g2
    exact ⟨(g1.chg k2 (fun _ f => f)).chg k3 (fun _ f => f), g2.chg k3 (fun _ f => f), g3, (k1.then k2 (fun _ _ _ f => f)).then k3 (fun _ _ _ f => f)⟩
  have HS := Lib.hid (And.intro h1 (And.intro h2 (And.intro h3 h4)))
  have HL := Lib.hid (And.intro l1 (And.intro l2 (And.intro l3 (And.intro l4 (And.intro hB1 hB2)))))
  clear h1 h2 h3 h4 l1 l2 l3 l4 hB1 hB2
  go_enter Tryz.func79, Tryz.ntmps79
  go_wp2_with fail
  generalize hWe : ((w.alloc (.cells #[.bool false, .slice aA an ac, .slice bA bn bc] 31)).alloc (.cells #[.bool true, .slice cA cn cc, .slice dA dn dc] 31)).alloc (.cells #[.bool false, .slice none 0 0, .slice none 0 0] 31) = W0
  obtain ⟨bk1, bk2, bk3, hc0⟩ := HW.out W0 hWe.symm
  have BK3 := Lib.hid bk3
  have HC0 := Lib.hid hc0
  have HKP : Hid (∀ W, Chg No W0 W → W.cell? ⟨w.heap.size, 0, none⟩ = some (.bool false) ∧ W.cell? ⟨w.heap.size, 1, none⟩ = some (.slice aA an ac) ∧ W.cell? ⟨w.heap.size, 2, none⟩ = some (.slice bA bn bc) ∧ W.cell? ⟨w.heap.size + 1, 0, none⟩ = some (.bool true) ∧ W.cell? ⟨w.heap.size + 1, 1, none⟩ = some (.slice cA cn cc) ∧ W.cell? ⟨w.heap.size + 1, 2, none⟩ = some (.slice dA dn dc) ∧ Chg No W0 W) :=
    Lib.hid fun W hW => ⟨(bk1.chg hW (fun _ f => f)).cell 0, (bk1.chg hW (fun _ f => f)).cell 1, (bk1.chg hW (fun _ f => f)).cell 2, (bk2.chg hW (fun _ f => f)).cell 0, (bk2.chg hW (fun _ f => f)).cell 1, (bk2.chg hW (fun _ f => f)).cell 2, hW⟩
  have HM1 : Hid (∀ W, Chg No W0 W → Calls Tryz.prog 34 #[.slice aA an ac, .slice dA dn dc] W (SnOut (A1 * B2) W)) :=
    Lib.hid fun W hW => spec_Mul _ _ A1 B2 n W (HS.out.1.chg (hc0.then hW (fun _ _ _ f => f))) (HS.out.2.2.2.chg (hc0.then hW (fun _ _ _ f => f))) HL.out.1 HL.out.2.2.2.1 (by omega)
  have HM2 : Hid (∀ W, Chg No W0 W → Calls Tryz.prog 34 #[.slice cA cn cc, .slice bA bn bc] W (SnOut (A2 * B1) W)) :=
    Lib.hid fun W hW => spec_Mul _ _ A2 B1 n W (HS.out.2.2.1.chg (hc0.then hW (fun _ _ _ f => f))) (HS.out.2.1.chg (hc0.then hW (fun _ _ _ f => f))) HL.out.2.2.1 HL.out.2.1 (by omega)
  have HM3 : Hid (∀ W, Chg No W0 W → Calls Tryz.prog 34 #[.slice bA bn bc, .slice dA dn dc] W (SnOut (B1 * B2) W)) :=
    Lib.hid fun W hW => spec_Mul _ _ B1 B2 n W (HS.out.2.1.chg (hc0.then hW (fun _ _ _ f => f))) (HS.out.2.2.2.chg (hc0.then hW (fun _ _ _ f => f))) HL.out.2.1 HL.out.2.2.2.1 (by omega)
  clear bk1 bk2 bk3 hc0 hWe HW
  go_region_held3 (fun W => W.cell? ⟨w.heap.size, 0, none⟩ = some (.bool false) ∧ W.cell? ⟨w.heap.size, 1, none⟩ = some (.slice aA an ac) ∧ W.cell? ⟨w.heap.size, 2, none⟩ = some (.slice bA bn bc) ∧ W.cell? ⟨w.heap.size + 1, 0, none⟩ = some (.bool true) ∧ W.cell? ⟨w.heap.size + 1, 1, none⟩ = some (.slice cA cn cc) ∧ W.cell? ⟨w.heap.size + 1, 2, none⟩ = some (.slice dA dn dc) ∧ Chg No W0 W) (first | assumption | exact HKP.out _ (Chg.refl No W0).drew) (first
    | (go_at_call 34; obtain ⟨-, -, -, -, -, -, hcur⟩ := ‹_ ∧ _ ∧ _ ∧ _ ∧ _ ∧ _ ∧ Chg No W0 _›; (with_reducible refine (HM1.out _ hcur).mono ?_); rintro e w1 ⟨r1, rfl, hr1, hk1⟩; have hS1 := HKP.out w1 (hcur.then hk1 (fun _ _ _ f => f)); have R1 := Lib.hid hr1; clear hr1 hk1 hcur)
    | (go_at_call 34; obtain ⟨-, -, -, -, -, -, hcur⟩ := ‹_ ∧ _ ∧ _ ∧ _ ∧ _ ∧ _ ∧ Chg No W0 _›; (with_reducible refine (HM2.out _ hcur).mono ?_); rintro e w2 ⟨r2, rfl, hr2, hk2⟩; have hS2 := HKP.out w2 (hcur.then hk2 (fun _ _ _ f => f)); have R2 := Lib.hid hr2; have R12 := Lib.hid (R1.out.chg hk2); clear hr2 hk2 hcur)
    | (go_at_call 34; obtain ⟨-, -, -, -, -, -, hcur⟩ := ‹_ ∧ _ ∧ _ ∧ _ ∧ _ ∧ _ ∧ Chg No W0 _›; (with_reducible refine (HM3.out _ hcur).mono ?_); rintro e w3 ⟨r3, rfl, hr3, hk3⟩; have hS3 := HKP.out w3 (hcur.then hk3 (fun _ _ _ f => f)); have R3 := Lib.hid hr3; have R13 := Lib.hid (R12.out.chg hk3); have R23 := Lib.hid (R2.out.chg hk3); clear hr3 hk3 hcur))
  all_goals
    obtain ⟨c0, c1, c2, c3, c4, c5, hcur3⟩ := hS3
    have K3 := Lib.hid hcur3
    obtain ⟨r1A, r1n, r1c, rfl⟩ : ∃ A n c, r1 = .slice A n c := by obtain ⟨l, A, c, e, _⟩ := R1.out.view; exact ⟨_, _, _, e⟩
    obtain ⟨r2A, r2n, r2c, rfl⟩ : ∃ A n c, r2 = .slice A n c := by obtain ⟨l, A, c, e, _⟩ := R2.out.view; exact ⟨_, _, _, e⟩
    obtain ⟨r3A, r3n, r3c, rfl⟩ : ∃ A n c, r3 = .slice A n c := by obtain ⟨l, A, c, e, _⟩ := R3.out.view; exact ⟨_, _, _, e⟩
    have LB : Hid (A1 * B2 < 65536 ^ (2 * n) ∧ A2 * B1 < 65536 ^ (2 * n) ∧ B1 * B2 < 65536 ^ (2 * n) ∧ B1 * B2 ≠ 0) := Lib.hid ⟨mul_bound HL.out.1 HL.out.2.2.2.1, mul_bound HL.out.2.2.1 HL.out.2.1, mul_bound HL.out.2.1 HL.out.2.2.2.1, Nat.mul_ne_zero HL.out.2.2.2.2.1 HL.out.2.2.2.2.2⟩
    have H4 := Lib.hid (spec_Cmp _ _ _ _ (2 * n) w3 R13.out R23.out LB.out.1 LB.out.2.1 (by omega))
    have BK33 := Lib.hid (BK3.out.chg hcur3 (fun _ f => f))
    by_cases hle : A2 * B1 ≤ A1 * B2
    · obtain ⟨c, hc⟩ : ∃ c, c = cmp3 (A1 * B2) (A2 * B1) := ⟨_, rfl⟩
      have i3 : 0 ≤ c := by rw [hc]; exact cmp3_ge hle
      have HLE := Lib.hid hle
      rw [← hc] at H4
      clear hle hc hcur3 HM1 HM2 HM3
      go_wp2_with fail
      refine H4.out.mono ?_
      rintro e w4 ⟨rfl, hk4⟩
      have KC4 := Lib.hid (K3.out.then hk4 (fun _ _ _ f => f))
      have HSB : Hid (∀ W, Chg No w4 W → Calls Tryz.prog 77 #[.slice r1A r1n r1c, .slice r2A r2n r2c] W (SnOut (A1 * B2 - A2 * B1) W)) :=
        Lib.hid fun W hW => spec_Sub _ _ (A1 * B2) (A2 * B1) (2 * n) W ((R13.out.chg hk4).chg hW) ((R23.out.chg hk4).chg hW) LB.out.1 HLE.out (by omega)
      have R34 := Lib.hid (R3.out.chg hk4)
      have BK4 := Lib.hid (BK33.out.chg hk4 (fun _ f => f))
      have HK4 : Hid (∀ W, Chg No w4 W → W.cell? ⟨w.heap.size, 0, none⟩ = some (.bool false) ∧ W.cell? ⟨w.heap.size + 1, 0, none⟩ = some (.bool true)) := Lib.hid fun W hW => by
        obtain ⟨d0, -, -, d3, -, -, -⟩ := HKP.out W (KC4.out.then hW (fun _ _ _ f => f))
        exact ⟨d0, d3⟩
      clear hk4 c0 c1 c2 c3 c4 c5 HKP
      go_wp2_with fail
      go_region_held3 (fun W => W.cell? ⟨w.heap.size, 0, none⟩ = some (.bool false) ∧ W.cell? ⟨w.heap.size + 1, 0, none⟩ = some (.bool true)) (first | assumption | exact HK4.out _ (Chg.refl No w4).drew | exact ⟨by rw [cell_setCell_ne _ _ _ _ _ _ (.inl (by omega)), cell_setCell_ne _ _ _ _ _ _ (.inl (by omega)), cell_setCell_ne _ _ _ _ _ _ (.inl (by omega))]; exact hS6.1, by rw [cell_setCell_ne _ _ _ _ _ _ (.inl (by omega)), cell_setCell_ne _ _ _ _ _ _ (.inl (by omega)), cell_setCell_ne _ _ _ _ _ _ (.inl (by omega))]; exact hS6.2⟩) (first
        | (go_at_call 77; have hcur : Chg No w4 w4.drew := (Chg.refl No w4).drew; (with_reducible refine (HSB.out _ hcur).mono ?_); rintro e w5 ⟨r5, rfl, hr5, hk5⟩; have hS5 := HK4.out w5 (hcur.then hk5 (fun _ _ _ f => f)); have HO := Lib.hid (fun W (hW : Chg No w5 W) => spec_Over false _ _ _ _ (2 * n) W (hr5.chg hW) ((R34.out.chg (hcur.then hk5 (fun _ _ _ f => f))).chg hW) (Nat.lt_of_le_of_lt (Nat.sub_le _ _) LB.out.1) LB.out.2.2.1 LB.out.2.2.2 (by omega)); have HC5 := Lib.hid (hcur.then hk5 (fun _ _ _ f => f)); clear hr5 hk5 hcur)
        | (go_at_call 78; (with_reducible refine (HO.out _ (by first | exact Chg.refl _ _ | exact (Chg.refl _ _).drewN _)).mono ?_); rintro e w6 ⟨a, b, A, B, rfl, ha, hb, g1, g2, g3, g4, hk6⟩; obtain ⟨a_A, a_n, a_c, rfl⟩ : ∃ A n c, a = .slice A n c := (by obtain ⟨l, A, c, e, _⟩ := ha.view; exact ⟨_, _, _, e⟩); obtain ⟨b_A, b_n, b_c, rfl⟩ : ∃ A n c, b = .slice A n c := (by obtain ⟨l, A, c, e, _⟩ := hb.view; exact ⟨_, _, _, e⟩); have K6 := HC5.out.then hk6 (fun _ _ _ f => f); have bk6 := BK4.out.chg K6 (fun _ f => f); have BK6 := Lib.hid bk6; have hS6 := HK4.out w6 K6; have HK6 := Lib.hid (HC0.out.then (KC4.out.then K6 (fun _ _ _ f => f)) (fun _ _ _ f => f)); have HAB := Lib.hid (And.intro ha (And.intro hb (And.intro g1 (And.intro g2 (And.intro g3 g4))))); have b0 := bk6.cell 0; have b1 := bk6.cell 1; have b2 := bk6.cell 2; simp only [List.getElem?_toArray] at b0 b1 b2; have f0 := bk6.plain.free 0; have f1 := bk6.plain.free 1; have f2 := bk6.plain.free 2; clear ha hb g1 g2 g3 g4 hk6 K6 bk6 HO))
      all_goals
        go_wp2_with fail
        have ks := BK6.out.st3_chg (noWB_bool _) (noWB_slice _ _ _) (noWB_slice _ _ _) (.bool false) (.slice a_A a_n a_c) (.slice b_A b_n b_c)
        refine bodyPost_ret (v := .agg #[.bool false, .slice a_A a_n a_c, .slice b_A b_n b_c]) ?_ rfl ?_
        · have hres : Tryz.f79.results = #[.cell 4 31] := rfl
          simp [results, hres, asAddr]
          exact load31 _ _ _ _ _ (BK6.out.st3 _ _ _)
        · obtain ⟨ha, hb, g1, g2, g3, g4⟩ := HAB.out
          have hle := HLE.out
          exact ⟨_, _, _, A, B, rfl, ha.other ks (BK6.out.safe zero31 ha), hb.other ks (BK6.out.safe zero31 hb), g2, g4, by omega, fun _ => ⟨rfl, g1⟩, fun h => by omega, HK6.out.then ks (fun y o hy f => by have h : y = w.heap.size + 1 + 1 := f; omega)⟩
    · obtain ⟨c, hc⟩ : ∃ c, c = cmp3 (A1 * B2) (A2 * B1) := ⟨_, rfl⟩
      have i3 : ¬ 0 ≤ c := by rw [hc, cmp3_lt (by omega)]; decide
      have HLE := Lib.hid hle
      rw [← hc] at H4
      clear hle hc hcur3 HM1 HM2 HM3
      go_wp2_with fail
      refine H4.out.mono ?_
      rintro e w4 ⟨rfl, hk4⟩
      have KC4 := Lib.hid (K3.out.then hk4 (fun _ _ _ f => f))
      have HSB : Hid (∀ W, Chg No w4 W → Calls Tryz.prog 77 #[.slice r2A r2n r2c, .slice r1A r1n r1c] W (SnOut (A2 * B1 - A1 * B2) W)) :=
        Lib.hid fun W hW => spec_Sub _ _ (A2 * B1) (A1 * B2) (2 * n) W ((R23.out.chg hk4).chg hW) ((R13.out.chg hk4).chg hW) LB.out.2.1 (Nat.le_of_lt (Nat.lt_of_not_le HLE.out)) (by omega)
      have R34 := Lib.hid (R3.out.chg hk4)
      have BK4 := Lib.hid (BK33.out.chg hk4 (fun _ f => f))
      have HK4 : Hid (∀ W, Chg No w4 W → W.cell? ⟨w.heap.size, 0, none⟩ = some (.bool false) ∧ W.cell? ⟨w.heap.size + 1, 0, none⟩ = some (.bool true)) := Lib.hid fun W hW => by
        obtain ⟨d0, -, -, d3, -, -, -⟩ := HKP.out W (KC4.out.then hW (fun _ _ _ f => f))
        exact ⟨d0, d3⟩
      clear hk4 c0 c1 c2 c3 c4 c5 HKP
      go_wp2_with fail
      go_region_held3 (fun W => W.cell? ⟨w.heap.size, 0, none⟩ = some (.bool false) ∧ W.cell? ⟨w.heap.size + 1, 0, none⟩ = some (.bool true)) (first | assumption | exact HK4.out _ (Chg.refl No w4).drew | exact ⟨by rw [cell_setCell_ne _ _ _ _ _ _ (.inl (by omega)), cell_setCell_ne _ _ _ _ _ _ (.inl (by omega)), cell_setCell_ne _ _ _ _ _ _ (.inl (by omega))]; exact hS6.1, by rw [cell_setCell_ne _ _ _ _ _ _ (.inl (by omega)), cell_setCell_ne _ _ _ _ _ _ (.inl (by omega)), cell_setCell_ne _ _ _ _ _ _ (.inl (by omega))]; exact hS6.2⟩) (first
        | (go_at_call 77; have hcur : Chg No w4 w4.drew := (Chg.refl No w4).drew; (with_reducible refine (HSB.out _ hcur).mono ?_); rintro e w5 ⟨r5, rfl, hr5, hk5⟩; have hS5 := HK4.out w5 (hcur.then hk5 (fun _ _ _ f => f)); have HO := Lib.hid (fun W (hW : Chg No w5 W) => spec_Over true _ _ _ _ (2 * n) W (hr5.chg hW) ((R34.out.chg (hcur.then hk5 (fun _ _ _ f => f))).chg hW) (Nat.lt_of_le_of_lt (Nat.sub_le _ _) LB.out.2.1) LB.out.2.2.1 LB.out.2.2.2 (by omega)); have HC5 := Lib.hid (hcur.then hk5 (fun _ _ _ f => f)); clear hr5 hk5 hcur)
        | (go_at_call 78; (with_reducible refine (HO.out _ (by first | exact Chg.refl _ _ | exact (Chg.refl _ _).drewN _)).mono ?_); rintro e w6 ⟨a, b, A, B, rfl, ha, hb, g1, g2, g3, g4, hk6⟩; obtain ⟨a_A, a_n, a_c, rfl⟩ : ∃ A n c, a = .slice A n c := (by obtain ⟨l, A, c, e, _⟩ := ha.view; exact ⟨_, _, _, e⟩); obtain ⟨b_A, b_n, b_c, rfl⟩ : ∃ A n c, b = .slice A n c := (by obtain ⟨l, A, c, e, _⟩ := hb.view; exact ⟨_, _, _, e⟩); have K6 := HC5.out.then hk6 (fun _ _ _ f => f); have bk6 := BK4.out.chg K6 (fun _ f => f); have BK6 := Lib.hid bk6; have hS6 := HK4.out w6 K6; have HK6 := Lib.hid (HC0.out.then (KC4.out.then K6 (fun _ _ _ f => f)) (fun _ _ _ f => f)); have HAB := Lib.hid (And.intro ha (And.intro hb (And.intro g1 (And.intro g2 (And.intro g3 g4))))); have b0 := bk6.cell 0; have b1 := bk6.cell 1; have b2 := bk6.cell 2; simp only [List.getElem?_toArray] at b0 b1 b2; have f0 := bk6.plain.free 0; have f1 := bk6.plain.free 1; have f2 := bk6.plain.free 2; clear ha hb g1 g2 g3 g4 hk6 K6 bk6 HO))
      all_goals
        go_wp2_with fail
        have ks := BK6.out.st3_chg (noWB_bool _) (noWB_slice _ _ _) (noWB_slice _ _ _) (.bool (!decide (A2 * B1 - A1 * B2 = 0))) (.slice a_A a_n a_c) (.slice b_A b_n b_c)
        refine bodyPost_ret (v := .agg #[.bool (!decide (A2 * B1 - A1 * B2 = 0)), .slice a_A a_n a_c, .slice b_A b_n b_c]) ?_ rfl ?_
        · have hres : Tryz.f79.results = #[.cell 4 31] := rfl
          simp [results, hres, asAddr]
          exact load31 _ _ _ _ _ (BK6.out.st3 _ _ _)
        · obtain ⟨ha, hb, g1, g2, g3, g4⟩ := HAB.out
          have hle := HLE.out
          exact ⟨_, _, _, A, B, rfl, ha.other ks (BK6.out.safe zero31 ha), hb.other ks (BK6.out.safe zero31 hb), g2, g4, by omega, fun h => by omega, fun _ => ⟨by rw [decide_eq_false (by omega)]; rfl, g1⟩, HK6.out.then ks (fun y o hy f => by have h : y = w.heap.size + 1 + 1 := f; omega)⟩
set_option maxRecDepth 100000 in
set_option maxHeartbeats 1000000 in
theorem spec_SignOf (nb : Bool) (aA : Option Addr) (an ac : Nat) (b : Value) (A : Nat) (w : World) (ha : Sn w (.slice aA an ac) A) (hb : ∃ bA bn bc, b = .slice bA bn bc) :
    Calls Tryz.prog 128 #[.agg #[.bool nb, .slice aA an ac, b]] w fun e w' => e = .returned (.int .i64 (if A = 0 then 0 else if nb then -1 else 1)) ∧ Chg No w w' := by
  obtain ⟨bA, bn, bc, rfl⟩ := hb
  have hz := ha.zero_len
  by_cases h0 : A = 0
  · obtain rfl := hz.2 h0
    rw [if_pos h0]
    clear hz ha h0
    go_enter Tryz.func128, Tryz.ntmps128
    go_wp2_with fail
    go_ret
    exact ⟨rfl, (Chg.refl No w).alloc _⟩
  · have hn : an ≠ 0 := fun h => h0 (hz.1 h)
    have t1 : ((an : Int) == 0) = false := beq_eq_false_iff_ne.2 (by omega)
    rw [if_neg h0]
    clear hz ha h0
    cases nb
    · go_enter Tryz.func128, Tryz.ntmps128
      go_wp2_with fail
      go_ret
      exact ⟨rfl, (Chg.refl No w).alloc _⟩
    · go_enter Tryz.func128, Tryz.ntmps128
      go_wp2_with fail
      go_ret
      exact ⟨rfl, (Chg.refl No w).alloc _⟩
set_option maxRecDepth 100000 in
set_option maxHeartbeats 1000000 in
theorem spec_Sign (nb : Bool) (aA : Option Addr) (an ac : Nat) (E : Int) (A : Nat) (w : World) (ha : Sn w (.slice aA an ac) A) :
    Calls Tryz.prog 74 #[.agg #[.bool nb, .slice aA an ac, .int .i64 E]] w fun e w' => e = .returned (.int .i64 (if A = 0 then 0 else if nb then -1 else 1)) ∧ Chg No w w' := by
  have hz := ha.zero_len
  by_cases h0 : A = 0
  · obtain rfl := hz.2 h0
    rw [if_pos h0]
    clear hz ha h0
    go_enter Tryz.func74, Tryz.ntmps74
    go_wp2_with fail
    go_ret
    exact ⟨rfl, (Chg.refl No w).alloc _⟩
  · have hn : an ≠ 0 := fun h => h0 (hz.1 h)
    have t1 : ((an : Int) == 0) = false := beq_eq_false_iff_ne.2 (by omega)
    rw [if_neg h0]
    clear hz ha h0
    cases nb
    · go_enter Tryz.func74, Tryz.ntmps74
      go_wp2_with fail
      go_ret
      exact ⟨rfl, (Chg.refl No w).alloc _⟩
    · go_enter Tryz.func74, Tryz.ntmps74
      go_wp2_with fail
      go_ret
      exact ⟨rfl, (Chg.refl No w).alloc _⟩
/-- Two new blocks: a struct that is handed over, and one for the result. -/
theorem two_new (w : World) (us vs : Array Value) (t t' : TypeId) : Bk ((w.alloc (.cells us t)).alloc (.cells vs t')) w.heap.size us ∧ Bk ((w.alloc (.cells us t)).alloc (.cells vs t')) (w.heap.size + 1) vs ∧ Chg No w ((w.alloc (.cells us t)).alloc (.cells vs t')) := by
  have g1 := Bk.new w us t
  have k1 : Chg No w (w.alloc (.cells us t)) := (Chg.refl No w).alloc _
  have s1 : (w.alloc (.cells us t)).heap.size = w.heap.size + 1 := by simp
  have g2 := Bk.new (w.alloc (.cells us t)) vs t'
  have k2 := (Chg.refl No (w.alloc (.cells us t))).alloc (.cells vs t')
  rw [s1] at g2
  exact ⟨g1.chg k2 (fun _ f => f), g2, k1.then k2 (fun _ _ _ f => f)⟩
set_option maxRecDepth 100000 in
set_option maxHeartbeats 1000000 in
theorem spec_Opposite (n : Bool) (A : Option Addr) (k c : Nat) (E : Int) (w : World) :
    Calls Tryz.prog 76 #[.agg #[.bool n, .slice A k c, .int .i64 E]] w fun e w' => e = .returned (.agg #[.bool (!n), .slice A k c, .int .i64 E]) ∧ Chg No w w' := by
  obtain ⟨-, g2, g3⟩ := two_new w #[.bool n, .slice A k c, .int .i64 E] #[.bool (!n), .slice A k c, .int .i64 E] 47 47
  have G2 := Lib.hid g2
  have G3 := Lib.hid g3
  clear g2 g3
  go_enter Tryz.func76, Tryz.ntmps76
  go_wp2_with fail
  refine bodyPost_ret (v := .agg #[.bool (!n), .slice A k c, .int .i64 E]) ?_ rfl ⟨rfl, G3.out⟩
  have hres : Tryz.f76.results = #[.cell 2 47] := rfl
  simp [results, hres, asAddr]
  exact load47' _ _ _ _ _ G2.out
set_option maxRecDepth 100000 in
set_option maxHeartbeats 1000000 in
theorem spec_Negated (A : Option Addr) (k c : Nat) (B : Option Addr) (m d : Nat) (X : Nat) (w : World) (hx : Sn w (.slice A k c) X) :
    Calls Tryz.prog 129 #[.agg #[.bool false, .slice A k c, .slice B m d]] w fun e w' => e = .returned (.agg #[.bool (decide (X ≠ 0)), .slice A k c, .slice B m d]) ∧ Chg No w w' := by
  have hz := hx.zero_len
  have hd : decide (X ≠ 0) = decide (0 < k) := by
    by_cases h : X = 0
    · rw [hz.2 h, h]; rfl
    · rw [decide_eq_true h, decide_eq_true (by have : k ≠ 0 := fun e => h (hz.1 e); omega)]
  rw [hd]
  obtain ⟨-, g2, g3⟩ := two_new w #[.bool false, .slice A k c, .slice B m d] #[.bool (decide (0 < k)), .slice A k c, .slice B m d] 31 31
  have G2 := Lib.hid g2
  have G3 := Lib.hid g3
  clear g2 g3 hz hx hd
  go_enter Tryz.func129, Tryz.ntmps129
  go_wp2_with fail
  refine bodyPost_ret (v := .agg #[.bool (decide (0 < k)), .slice A k c, .slice B m d]) ?_ rfl ⟨rfl, G3.out⟩
  have hres : Tryz.f129.results = #[.cell 2 31] := rfl
  simp [results, hres, asAddr]
  exact load31 _ _ _ _ _ G2.out
set_option maxRecDepth 100000 in
set_option maxHeartbeats 4000000 in
theorem spec_Compare (aA : Option Addr) (an ac : Nat) (bA : Option Addr) (bn bc : Nat) (cA : Option Addr) (cn cc : Nat) (dA : Option Addr) (dn dc : Nat) (A1 B1 A2 B2 n : Nat) (w : World)
    (h1 : Sn w (.slice aA an ac) A1) (h2 : Sn w (.slice bA bn bc) B1) (h3 : Sn w (.slice cA cn cc) A2) (h4 : Sn w (.slice dA dn dc) B2)
    (l1 : A1 < 65536 ^ n) (l2 : B1 < 65536 ^ n) (l3 : A2 < 65536 ^ n) (l4 : B2 < 65536 ^ n) (hB1 : B1 ≠ 0) (hB2 : B2 ≠ 0) (hA2 : A2 ≠ 0) (hn : n ≤ 500) :
    Calls Tryz.prog 80 #[.agg #[.bool false, .slice aA an ac, .slice bA bn bc], .agg #[.bool false, .slice cA cn cc, .slice dA dn dc]] w fun e w' => ∃ c : Int, e = .returned (.int .i64 c) ∧ (A2 * B1 ≤ A1 * B2 → 0 ≤ c) ∧ (A1 * B2 < A2 * B1 → c < 0) ∧ Chg No w w' := by
  obtain ⟨g1, g2, k0⟩ := two_new w #[.bool false, .slice aA an ac, .slice bA bn bc] #[.bool false, .slice cA cn cc, .slice dA dn dc] 31 31
  have HN0 := Lib.hid (fun W (hW : Chg No w W) => spec_Negated cA cn cc dA dn dc A2 W (h3.chg hW))
  have HP0 := Lib.hid (fun W (hW : Chg No w W) => spec_Plus aA an ac bA bn bc cA cn cc dA dn dc A1 B1 A2 B2 n W (h1.chg hW) (h2.chg hW) (h3.chg hW) (h4.chg hW) l1 l2 l3 l4 hB1 hB2 hn)
  rw [decide_eq_true hA2] at HN0
  have HB := Lib.hid (And.intro hB1 hB2)
  have K0 := Lib.hid k0
  have HKP : Hid (∀ W, Chg No ((w.alloc (.cells #[.bool false, .slice aA an ac, .slice bA bn bc] 31)).alloc (.cells #[.bool false, .slice cA cn cc, .slice dA dn dc] 31)) W → W.cell? ⟨w.heap.size, 0, none⟩ = some (.bool false) ∧ W.cell? ⟨w.heap.size, 1, none⟩ = some (.slice aA an ac) ∧ W.cell? ⟨w.heap.size, 2, none⟩ = some (.slice bA bn bc) ∧ W.cell? ⟨w.heap.size + 1, 0, none⟩ = some (.bool false) ∧ W.cell? ⟨w.heap.size + 1, 1, none⟩ = some (.slice cA cn cc) ∧ W.cell? ⟨w.heap.size + 1, 2, none⟩ = some (.slice dA dn dc)) :=
    Lib.hid fun W hW => ⟨(g1.chg hW (fun _ f => f)).cell 0, (g1.chg hW (fun _ f => f)).cell 1, (g1.chg hW (fun _ f => f)).cell 2, (g2.chg hW (fun _ f => f)).cell 0, (g2.chg hW (fun _ f => f)).cell 1, (g2.chg hW (fun _ f => f)).cell 2⟩
  clear g1 g2 k0 h1 h2 h3 h4 l1 l2 l3 l4 hB1 hB2 hA2
  go_enter Tryz.func80, Tryz.ntmps80
  go_wp2_with fail
  generalize (w.alloc (.cells #[.bool false, .slice aA an ac, .slice bA bn bc] 31)).alloc (.cells #[.bool false, .slice cA cn cc, .slice dA dn dc] 31) = W0 at K0 HKP ⊢
  go_region_held3 (fun W => W.cell? ⟨w.heap.size, 0, none⟩ = some (.bool false) ∧ W.cell? ⟨w.heap.size, 1, none⟩ = some (.slice aA an ac) ∧ W.cell? ⟨w.heap.size, 2, none⟩ = some (.slice bA bn bc) ∧ W.cell? ⟨w.heap.size + 1, 0, none⟩ = some (.bool false) ∧ W.cell? ⟨w.heap.size + 1, 1, none⟩ = some (.slice cA cn cc) ∧ W.cell? ⟨w.heap.size + 1, 2, none⟩ = some (.slice dA dn dc)) (first | assumption | exact HKP.out _ (Chg.refl No W0).drew) (first
    | (go_at_call 129; have hcur : Chg No w W0.drew := K0.out.drew; (with_reducible refine (HN0.out _ hcur).mono ?_); rintro e w1 ⟨rfl, hk1⟩; have hS1 := HKP.out w1 ((Chg.refl No W0).drew.then hk1 (fun _ _ _ f => f)); have K1 := Lib.hid (hcur.then hk1 (fun _ _ _ f => f)); have K1' := Lib.hid ((Chg.refl No W0).drew.then hk1 (fun _ _ _ f => f)); clear hk1 hcur)
    | (go_at_call 79; (with_reducible refine (HP0.out _ K1.out).mono ?_); rintro e w2 ⟨nb, a, b, A, B, rfl, ha, hb, q1, q2, q3, q4, q5, hk2⟩; have hS2 := HKP.out w2 (K1'.out.then hk2 (fun _ _ _ f => f)); have K2 := Lib.hid (K1.out.then hk2 (fun _ _ _ f => f)); have K2' := Lib.hid (K1'.out.then hk2 (fun _ _ _ f => f)); have HA := Lib.hid ha; have HV := Lib.hid (And.intro q1 (And.intro q4 q5)); obtain ⟨sg, hsg⟩ : ∃ s : Int, s = (if A = 0 then 0 else if nb = true then -1 else 1) := ⟨_, rfl⟩; have HSG := Lib.hid hsg; obtain ⟨a_A, a_n, a_c, rfl⟩ : ∃ A n c, a = .slice A n c := (by obtain ⟨l, A, c, e, _⟩ := ha.view; exact ⟨_, _, _, e⟩); obtain ⟨b_A, b_n, b_c, rfl⟩ : ∃ A n c, b = .slice A n c := (by obtain ⟨l, A, c, e, _⟩ := hb.view; exact ⟨_, _, _, e⟩); have H128 := Lib.hid (spec_SignOf nb a_A a_n a_c (.slice b_A b_n b_c) A w2 ha ⟨_, _, _, rfl⟩); rw [← hsg] at H128; clear ha hb q1 q2 q3 q4 q5 hk2 hsg)
    | (go_at_call 128; (with_reducible refine H128.out.mono ?_); rintro e w3 ⟨rfl, hk3⟩; have hS3 := HKP.out w3 (K2'.out.then hk3 (fun _ _ _ f => f)); have K3 := Lib.hid (K2.out.then hk3 (fun _ _ _ f => f)); clear hk3))
  all_goals
    go_wp2_with fail
    go_ret
    obtain ⟨q1, q4, q5⟩ := HV.out
    refine ⟨_, rfl, fun h => ?_, fun h => ?_, K3.out⟩
    · obtain ⟨rfl, -⟩ := q4 h
      rw [HSG.out]; split <;> simp
    · obtain ⟨rfl, hv⟩ := q5 h
      have hA : A ≠ 0 := by
        rintro rfl
        rw [Nat.zero_mul] at hv
        have : (A2 * B1 - A1 * B2) * B ≠ 0 := Nat.mul_ne_zero (by omega) q1
        omega
      rw [HSG.out, if_neg hA]; simp
/-- No nearer than half a unit, on the scale of the specification. -/
theorem far_law {A3 B3 A4 B4 Z D T1 T2 : Nat} (h3 : A3 * D = Z * B3) (h4 : A4 * T2 = T1 * B4) (hz : T1 * D ≤ Z * T2) (hD : 0 < D) (hT : 0 < T2) : A4 * B3 ≤ A3 * B4 := by
  apply Nat.le_of_mul_le_mul_right _ (Nat.mul_pos hD hT)
  have e1 : A4 * B3 * (D * T2) = (T1 * D) * (B3 * B4) := by
    have : A4 * B3 * (D * T2) = (A4 * T2) * (B3 * D) := by grind
    rw [this, h4]; grind
  have e2 : A3 * B4 * (D * T2) = (Z * T2) * (B3 * B4) := by
    have : A3 * B4 * (D * T2) = (A3 * D) * (B4 * T2) := by grind
    rw [this, h3]; grind
  rw [e1, e2]
  exact Nat.mul_le_mul_right _ hz
/-- The distance of the first difference. -/
theorem dist_law {A1 B1 A3 B3 N D a b : Nat} (h1 : A1 * D = N * B1) (hB : 0 < B1) (hD : 0 < D) (h : A3 * (B1 * b) = (A1 * b - a * B1) * B3) (hle : a * B1 ≤ A1 * b) : A3 * (b * D) = (N * b - a * D) * B3 ∧ a * D ≤ N * b := by
  obtain ⟨k, hk⟩ := Nat.exists_eq_add_of_le hle
  rw [hk, Nat.add_sub_cancel_left] at h
  have e1 : N * b * B1 = (a * B1 + k) * D := by
    have : N * b * B1 = (N * B1) * b := by grind
    rw [this, ← h1, ← hk]; grind
  have hle2 : a * D ≤ N * b := by
    apply Nat.le_of_mul_le_mul_right _ hB
    rw [e1]; grind
  obtain ⟨j, hj⟩ := Nat.exists_eq_add_of_le hle2
  rw [hj] at e1
  have e2 : j * B1 = k * D := by grind
  refine ⟨?_, hle2⟩
  rw [hj, Nat.add_sub_cancel_left]
  apply Nat.eq_of_mul_eq_mul_right hB
  have e3 : A3 * (b * D) * B1 = (A3 * (B1 * b)) * D := by grind
  rw [e3, h]
  have e4 : k * B3 * D = (k * D) * B3 := by grind
  rw [e4, ← e2]; grind
theorem dist_law' {A1 B1 A3 B3 N D a b : Nat} (h1 : A1 * D = N * B1) (hB : 0 < B1) (hD : 0 < D) (h : A3 * (B1 * b) = (a * B1 - A1 * b) * B3) (hle : A1 * b ≤ a * B1) : A3 * (b * D) = (a * D - N * b) * B3 ∧ N * b ≤ a * D := by
  obtain ⟨k, hk⟩ := Nat.exists_eq_add_of_le hle
  rw [hk, Nat.add_sub_cancel_left] at h
  have e1 : N * b * B1 = (A1 * b) * D := by
    have : N * b * B1 = (N * B1) * b := by grind
    rw [this, ← h1]; grind
  have e0 : a * D * B1 = (A1 * b + k) * D := by rw [← hk]; grind
  have hle2 : N * b ≤ a * D := by
    apply Nat.le_of_mul_le_mul_right _ hB
    rw [e1, e0]; grind
  obtain ⟨j, hj⟩ := Nat.exists_eq_add_of_le hle2
  rw [hj] at e0
  have e2 : j * B1 = k * D := by grind
  refine ⟨?_, hle2⟩
  rw [hj, Nat.add_sub_cancel_left]
  apply Nat.eq_of_mul_eq_mul_right hB
  have e3 : A3 * (b * D) * B1 = (A3 * (B1 * b)) * D := by grind
  rw [e3, h]
  have e4 : k * B3 * D = (k * D) * B3 := by grind
  rw [e4, ← e2]; grind
/-- N by 10 to e is not within half a unit (2 to t) of X by 2 to E. -/
def OutOf (X : Nat) (E t : Int) (N : Nat) (e : Int) : Prop :=
  (N * 10 ^ e.toNat * 2 ^ (-E).toNat ≤ X * 2 ^ E.toNat * 10 ^ (-e).toNat → 2 ^ t.toNat * (2 ^ (-E).toNat * 10 ^ (-e).toNat) ≤ (X * 2 ^ E.toNat * 10 ^ (-e).toNat - N * 10 ^ e.toNat * 2 ^ (-E).toNat) * 2 ^ (-t).toNat) ∧
  (X * 2 ^ E.toNat * 10 ^ (-e).toNat ≤ N * 10 ^ e.toNat * 2 ^ (-E).toNat → 2 ^ t.toNat * (2 ^ (-E).toNat * 10 ^ (-e).toNat) ≤ (N * 10 ^ e.toNat * 2 ^ (-E).toNat - X * 2 ^ E.toNat * 10 ^ (-e).toNat) * 2 ^ (-t).toNat)
theorem outOf_scale {X g M : Nat} {E t : Int} (hg : E = t + g) (hM : M = X * 2 ^ g) (B : Nat) : (M * 2 ^ t.toNat * B) * 2 ^ (-E).toNat = (X * 2 ^ E.toNat * B) * 2 ^ (-t).toNat := by
  have hs : g + t.toNat + (-E).toNat = E.toNat + (-t).toNat := by omega
  rw [hM]
  have e1 : X * 2 ^ g * 2 ^ t.toNat * B * 2 ^ (-E).toNat = X * B * 2 ^ (g + t.toNat + (-E).toNat) := by rw [Nat.pow_add, Nat.pow_add]; grind
  rw [e1, hs, Nat.pow_add]; grind
theorem outOf_low {X g M N : Nat} {E t e : Int} (hg : E = t + g) (hM : M = X * 2 ^ g) (hM0 : 0 < M) (h : dP t e N ≤ dQ t e (M - 1)) : OutOf X E t N e := by
  have hsc := outOf_scale hg hM (10 ^ (-e).toNat)
  unfold dP dQ at h
  have hD := ten_pos (-e).toNat
  have hT := Nat.two_pow_pos t.toNat
  have hT' := Nat.two_pow_pos (-t).toNat
  have hE' := Nat.two_pow_pos (-E).toNat
  unfold OutOf
  generalize N * 10 ^ e.toNat = A at *
  generalize 10 ^ (-e).toNat = D at *
  generalize 2 ^ t.toNat = T1 at *
  generalize 2 ^ (-t).toNat = T2 at *
  generalize 2 ^ (-E).toNat = b at *
  generalize X * 2 ^ E.toNat = a at *
  obtain ⟨K, rfl⟩ : ∃ K, M = K + 1 := ⟨M - 1, by omega⟩
  rw [Nat.add_sub_cancel] at h
  -- A b T2 + T1 b D ≤ a D T2
  have key : A * b * T2 + T1 * (b * D) ≤ a * D * T2 := by
    have h2 := Nat.mul_le_mul_right b h
    have e1 : A * T2 * b = A * b * T2 := by grind
    have e2 : (K + 1) * T1 * D * b = K * T1 * D * b + T1 * (b * D) := by grind
    rw [← hsc, e2, ← e1]
    omega
  constructor
  · intro hle
    obtain ⟨j, hj⟩ := Nat.exists_eq_add_of_le hle
    rw [hj, Nat.add_sub_cancel_left]
    rw [hj, Nat.add_mul] at key
    omega
  · intro hle
    exfalso
    have h3 := Nat.mul_le_mul_right T2 hle
    have h4 : 0 < T1 * (b * D) := Nat.mul_pos hT (Nat.mul_pos hE' hD)
    omega
theorem outOf_high {X g M N : Nat} {E t e : Int} (hg : E = t + g) (hM : M = X * 2 ^ g) (h : dQ t e (M + 1) ≤ dP t e N) : OutOf X E t N e := by
  have hsc := outOf_scale hg hM (10 ^ (-e).toNat)
  unfold dP dQ at h
  have hD := ten_pos (-e).toNat
  have hT := Nat.two_pow_pos t.toNat
  have hT' := Nat.two_pow_pos (-t).toNat
  have hE' := Nat.two_pow_pos (-E).toNat
  unfold OutOf
  generalize N * 10 ^ e.toNat = A at *
  generalize 10 ^ (-e).toNat = D at *
  generalize 2 ^ t.toNat = T1 at *
  generalize 2 ^ (-t).toNat = T2 at *
  generalize 2 ^ (-E).toNat = b at *
  generalize X * 2 ^ E.toNat = a at *
  have key : a * D * T2 + T1 * (b * D) ≤ A * b * T2 := by
    have h2 := Nat.mul_le_mul_right b h
    have e1 : A * T2 * b = A * b * T2 := by grind
    have e2 : (M + 1) * T1 * D * b = M * T1 * D * b + T1 * (b * D) := by grind
    rw [← hsc, ← e1]
    omega
  constructor
  · intro hle
    exfalso
    have h3 := Nat.mul_le_mul_right T2 hle
    have h4 : 0 < T1 * (b * D) := Nat.mul_pos hT (Nat.mul_pos hE' hD)
    omega
  · intro hle
    obtain ⟨j, hj⟩ := Nat.exists_eq_add_of_le hle
    rw [hj, Nat.add_sub_cancel_left]
    rw [hj, Nat.add_mul] at key
    omega
/-- All of it: what is told of the two fractions gives the answer. -/
theorem outOf_cmp {X N A1 B1 A3 B3 A4 B4 : Nat} {E t e : Int} (h : OutOf X E t N e) (h1 : A1 * 10 ^ (-e).toNat = N * 10 ^ e.toNat * B1) (hB1 : B1 ≠ 0)
    (q4 : X * 2 ^ E.toNat * B1 ≤ A1 * 2 ^ (-E).toNat → A3 * (B1 * 2 ^ (-E).toNat) = (A1 * 2 ^ (-E).toNat - X * 2 ^ E.toNat * B1) * B3)
    (q5 : A1 * 2 ^ (-E).toNat < X * 2 ^ E.toNat * B1 → A3 * (B1 * 2 ^ (-E).toNat) = (X * 2 ^ E.toNat * B1 - A1 * 2 ^ (-E).toNat) * B3)
    (h4 : A4 * 2 ^ (-t).toNat = 2 ^ t.toNat * B4) : A4 * B3 ≤ A3 * B4 := by
  have hD := ten_pos (-e).toNat
  have hT' := Nat.two_pow_pos (-t).toNat
  have hE' := Nat.two_pow_pos (-E).toNat
  unfold OutOf at h
  obtain ⟨g1, g2⟩ := h
  generalize N * 10 ^ e.toNat = A at *
  generalize 10 ^ (-e).toNat = D at *
  generalize 2 ^ t.toNat = T1 at *
  generalize 2 ^ (-t).toNat = T2 at *
  generalize 2 ^ (-E).toNat = b at *
  generalize X * 2 ^ E.toNat = a at *
  rcases Nat.lt_or_ge (A1 * b) (a * B1) with hlt | hge
  · obtain ⟨k1, k2⟩ := dist_law' (D := D) h1 (Nat.pos_of_ne_zero hB1) hD (q5 hlt) (Nat.le_of_lt hlt)
    exact far_law k1 h4 (g1 k2) (Nat.mul_pos hE' hD) hT'
  · obtain ⟨k1, k2⟩ := dist_law (D := D) h1 (Nat.pos_of_ne_zero hB1) hD (q4 hge) hge
    exact far_law k1 h4 (g2 k2) (Nat.mul_pos hE' hD) hT'
end Go.Proofs.YtacfhndledcmgaaGreatDoor
