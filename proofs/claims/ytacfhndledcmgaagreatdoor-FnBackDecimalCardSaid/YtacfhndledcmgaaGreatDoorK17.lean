/- Lemmas for the law FnBackDecimal: the plain law of the shortest decimal. Conditions: those in each theorem; none besides. -/
import Derived.Test.YtacfhndledcmgaaGreatDoorK14
import Derived.Test.YtacfhndledcmgaaGreatDoorK11
import Derived.Test.YtacfhndledcmgaaGreatDoorK16
import Derived.Test.YtacfhndledcmgaaGreatDoorK12
set_option linter.unusedVariables false
set_option linter.unusedSimpArgs false
namespace Go.Proofs.YtacfhndledcmgaaGreatDoor
open Go.RowKit
/-- k is the exponent of the power of 10 that is at most X / Y and more than a tenth of it. -/
def TensIs (X Y : Nat) (k : Int) : Prop := Y * 10 ^ k.toNat ≤ X * 10 ^ (-k).toNat ∧ X * 10 ^ (-k).toNat < Y * 10 ^ k.toNat * 10
/-- The exponent of a value by its figures. -/
theorem tens_of {V D N L : Nat} {x : Int} (hV : V * 10 ^ ((L : Int) - x).toNat = N * 10 ^ (x - (L : Int)).toNat * D) (h0 : 0 < L) (h1 : 10 ^ (L - 1) ≤ N) (h2 : N < 10 ^ L) (hD : 0 < D) : TensIs V D (x - 1) := by
  obtain ⟨u, hu⟩ : ∃ u, u = ((L : Int) - x).toNat := ⟨_, rfl⟩
  obtain ⟨v, hv⟩ : ∃ v, v = (x - (L : Int)).toNat := ⟨_, rfl⟩
  obtain ⟨a, ha⟩ : ∃ a, a = (x - 1).toNat := ⟨_, rfl⟩
  obtain ⟨b, hb⟩ : ∃ b, b = (-(x - 1)).toNat := ⟨_, rfl⟩
  unfold TensIs
  rw [← hu, ← hv] at hV
  rw [← ha, ← hb]
  have hs : a + u = (L - 1) + (v + b) := by omega
  have hU : 0 < 10 ^ u := Nat.pow_pos (by decide)
  have e1 : V * 10 ^ b * 10 ^ u = N * 10 ^ (v + b) * D := by
    have : V * 10 ^ b * 10 ^ u = V * 10 ^ u * 10 ^ b := by grind
    rw [this, hV, Nat.pow_add]; grind
  constructor
  · apply Nat.le_of_mul_le_mul_right _ hU
    have f1 : D * 10 ^ a * 10 ^ u = 10 ^ (L - 1) * 10 ^ (v + b) * D := by
      rw [Nat.mul_assoc, ← Nat.pow_add, hs, Nat.pow_add]; grind
    rw [e1, f1]
    exact Nat.mul_le_mul_right _ (Nat.mul_le_mul_right _ h1)
  · apply Nat.lt_of_mul_lt_mul_right (a := 10 ^ u)
    have f1 : D * 10 ^ a * 10 * 10 ^ u = 10 ^ L * 10 ^ (v + b) * D := by
      have g1 : D * 10 ^ a * 10 * 10 ^ u = D * (10 ^ a * 10 ^ u) * 10 := by grind
      have g2 : 10 ^ L = 10 ^ (L - 1) * 10 := by rw [← Nat.pow_succ]; congr 1; omega
      rw [g1, ← Nat.pow_add, hs, Nat.pow_add, g2]; grind
    rw [e1, f1]
    exact Nat.mul_lt_mul_of_pos_right (Nat.mul_lt_mul_of_pos_right h2 (Nat.pow_pos (by decide))) hD
theorem dec_bound {X : Nat} {E x : Int} {ds : List Nat} (h : DecPure X E ds x) (hX : X < 2 ^ 200) (h1 : -300 ≤ E) (h2 : E ≤ 300) : -800 ≤ x ∧ x ≤ 800 := by
  have hv := h.val
  obtain ⟨_, h0, hh, -, hd, -, -⟩ := h
  have hD0 : 0 < 2 ^ (-E).toNat := Nat.two_pow_pos _
  obtain ⟨t1, t2⟩ := tens_of hv h0 (Nd_ge h0 hh) (Nd_lt ds hd) hD0
  have hN0 : 0 < Nd ds := Nat.lt_of_lt_of_le (Nat.pow_pos (by decide)) (Nd_ge h0 hh)
  have hV0 : 0 < X * 2 ^ E.toNat := by
    rcases Nat.eq_zero_or_pos (X * 2 ^ E.toNat) with h | h
    · rw [h, Nat.zero_mul] at hv
      have := Nat.mul_pos (Nat.mul_pos hN0 (Nat.pow_pos (n := (x - (ds.length : Int)).toNat) (show 0 < 10 by decide))) hD0
      omega
    · exact h
  obtain ⟨p, hp⟩ : ∃ p, p = 200 + E.toNat := ⟨_, rfl⟩
  have hV : X * 2 ^ E.toNat < 10 ^ p := by
    have a1 : X * 2 ^ E.toNat < 2 ^ 200 * 2 ^ E.toNat := Nat.mul_lt_mul_of_pos_right hX (Nat.two_pow_pos _)
    rw [← Nat.pow_add, ← hp] at a1
    exact Nat.lt_of_lt_of_le a1 (Nat.pow_le_pow_left (by decide) _)
  have hB : 2 ^ (-E).toNat ≤ 10 ^ (-E).toNat := Nat.pow_le_pow_left (by decide) _
  generalize X * 2 ^ E.toNat = V at *
  generalize 2 ^ (-E).toNat = B at *
  obtain ⟨a, ha⟩ : ∃ a, a = (x - 1).toNat := ⟨_, rfl⟩
  obtain ⟨b, hb⟩ : ∃ b, b = (-(x - 1)).toNat := ⟨_, rfl⟩
  obtain ⟨r, hr⟩ : ∃ r, r = (-E).toNat := ⟨_, rfl⟩
  rw [← ha, ← hb] at t1 t2
  rw [← hr] at hB
  have hb1 : b < r + 1 + a := by
    have e1 : 1 * 10 ^ b ≤ V * 10 ^ b := Nat.mul_le_mul_right _ hV0
    have e2 : B * 10 ^ a * 10 ≤ 10 ^ r * 10 ^ a * 10 := Nat.mul_le_mul_right _ (Nat.mul_le_mul_right _ hB)
    have e3 : 10 ^ b < 10 ^ (r + 1 + a) := by
      have : 10 ^ (r + 1 + a) = 10 ^ r * 10 ^ a * 10 := by rw [Nat.pow_add, Nat.pow_succ]; grind
      rw [this]; omega
    exact (Nat.pow_lt_pow_iff_right (by decide)).1 e3
  have ha1 : a < p + b := by
    have e1 : 1 * 10 ^ a ≤ B * 10 ^ a := Nat.mul_le_mul_right _ hD0
    have e2 : V * 10 ^ b < 10 ^ p * 10 ^ b := Nat.mul_lt_mul_of_pos_right hV (Nat.pow_pos (by decide))
    have e3 : 10 ^ a < 10 ^ (p + b) := by rw [Nat.pow_add]; omega
    exact (Nat.pow_lt_pow_iff_right (by decide)).1 e3
  clear hv hX hV hB t1 t2 hN0
  omega
/-- Figures in order: at least one, no zero at either end. -/
def DOrd (ds : List Nat) : Prop := 0 < ds.length ∧ ds.getD 0 0 ≠ 0 ∧ ds.getD (ds.length - 1) 0 ≠ 0 ∧ ∀ d ∈ ds, d < 10
/-- The decimal 0.ds by 10 to xs, counted in units of 10 to x - r. -/
def InU (ds : List Nat) (xs x : Int) (r V : Nat) : Prop := ∃ z : Nat, (z : Int) = r + xs - x - ds.length ∧ V = Nd ds * 10 ^ z
theorem InU.dp {ds : List Nat} {x : Int} {r V : Nat} (h : InU ds x x r V) : ds.length ≤ r ∧ V = Dp ds r := by
  obtain ⟨z, hz, rfl⟩ := h
  refine ⟨by omega, ?_⟩
  rw [Dp_ge _ (by omega)]; congr 2; omega
theorem dp_floor {ds : List Nat} {r i : Nat} (hd : ∀ d ∈ ds, d < 10) (hi : i ≤ r) : Dp ds i * 10 ^ (r - i) ≤ Dp ds r ∧ Dp ds r < (Dp ds i + 1) * 10 ^ (r - i) := by
  obtain ⟨R, h1, h2⟩ := Dp_tail hd i (r - i)
  rw [show i + (r - i) = r by omega] at h2
  rw [h2, Nat.add_mul, Nat.one_mul]
  omega
theorem dp_exact {ds : List Nat} {r i : Nat} (hl : ds.length ≤ i) (hi : i ≤ r) : Dp ds r = Dp ds i * 10 ^ (r - i) := by
  rw [Dp_ge _ hl, Dp_ge _ (Nat.le_trans hl hi), Nat.mul_assoc, ← Nat.pow_add]; congr 2; omega
theorem dp_strict {ds : List Nat} {r i : Nat} (ho : DOrd ds) (hi : i < ds.length) (hr : ds.length ≤ r) : Dp ds i * 10 ^ (r - i) < Dp ds r := by
  obtain ⟨h0, _, hl, hd⟩ := ho
  have hlt := getD_lt (j := ds.length - 1) hd
  rw [dp_exact (Nat.le_refl _) hr, show r - i = (ds.length - i) + (r - ds.length) by omega, Nat.pow_add, ← Nat.mul_assoc]
  apply Nat.mul_lt_mul_of_pos_right _ (Nat.pow_pos (by decide))
  have h1 := (dp_floor hd (i := i) (r := ds.length) (by omega)).1
  have h2 : Dp ds ds.length = 10 * Dp ds (ds.length - 1) + ds.getD (ds.length - 1) 0 := by
    have := Dp_succ ds (ds.length - 1)
    rwa [show ds.length - 1 + 1 = ds.length by omega] at this
  have h3 : Dp ds i * 10 ^ (ds.length - i) = 10 * (Dp ds i * 10 ^ (ds.length - i - 1)) := by
    have : 10 ^ (ds.length - i) = 10 ^ (ds.length - i - 1) * 10 := by rw [← Nat.pow_succ]; congr 1; omega
    rw [this]; grind
  omega
theorem dp_congr {ds es : List Nat} : ∀ {i : Nat}, (∀ j, j < i → es.getD j 0 = ds.getD j 0) → Dp es i = Dp ds i
  | 0, _ => by rw [Dp_zero, Dp_zero]
  | i + 1, h => by rw [Dp_succ, Dp_succ, dp_congr (fun j hj => h j (by omega)), h i (by omega)]
theorem InU.frame {ds : List Nat} {xs x : Int} {r V : Nat} (h : InU ds xs x r V) (h0 : 0 < ds.length) : ∃ r' : Nat, (r' : Int) = r + xs - x ∧ ds.length ≤ r' ∧ V = Dp ds r' := by
  obtain ⟨z, hz, rfl⟩ := h
  refine ⟨z + ds.length, by omega, by omega, ?_⟩
  rw [Dp_ge _ (by omega)]; congr 2; omega
theorem dp_one (ds : List Nat) : Dp ds 1 = ds.getD 0 0 := by
  have := Dp_succ ds 0
  rw [Dp_zero] at this; simpa using this
theorem dp_lt {ds : List Nat} (hd : ∀ d ∈ ds, d < 10) : ∀ i, Dp ds i < 10 ^ i
  | 0 => by rw [Dp_zero]; decide
  | i + 1 => by
    have := dp_lt hd i
    have hg := getD_lt (j := i) hd
    rw [Dp_succ, Nat.pow_succ]; omega
theorem ten_le {a b : Nat} (h : a ≤ b) : 10 ^ a ≤ 10 ^ b := Nat.pow_le_pow_right (by decide) h
theorem ten_pos (a : Nat) : 0 < 10 ^ a := Nat.pow_pos (by decide)
/-- A value and its two neighbours at the same distance, by their figures. -/
structure ShSet (ds ls us : List Nat) (x xl xu : Int) (r VD VL VU h : Nat) : Prop where
  od : DOrd ds
  ol : DOrd ls
  ou : DOrd us
  vd : InU ds x x r VD
  vl : InU ls xl x r VL
  vu : InU us xu x r VU
  lo : VL + h = VD
  hi : VD + h = VU
  h0 : 0 < h
  h4 : 4 * h ≤ VD
section
variable {ds ls us : List Nat} {x xl xu : Int} {r VD VL VU h : Nat}
theorem ShSet.dbd (S : ShSet ds ls us x xl xu r VD VL VU h) : 0 < r ∧ VD = Dp ds r ∧ ds.getD 0 0 * 10 ^ (r - 1) ≤ VD ∧ VD < (ds.getD 0 0 + 1) * 10 ^ (r - 1) ∧ 0 < ds.getD 0 0 ∧ ds.getD 0 0 < 10 ∧ ds.length ≤ r := by
  obtain ⟨a, b⟩ := S.vd.dp
  have := S.od.1
  have hf := dp_floor S.od.2.2.2 (i := 1) (r := r) (by omega)
  rw [dp_one, ← b] at hf
  exact ⟨by omega, b, hf.1, hf.2, Nat.pos_of_ne_zero S.od.2.1, getD_lt S.od.2.2.2, a⟩
theorem ShSet.xl_le (S : ShSet ds ls us x xl xu r VD VL VU h) : xl ≤ x := by
  obtain ⟨a1, _, a3, a4, a5, a6, _⟩ := S.dbd
  obtain ⟨r', b1, b2, b3⟩ := S.vl.frame S.ol.1
  have := S.ol.1
  have hf := dp_floor S.ol.2.2.2 (i := 1) (r := r') (by omega)
  rw [dp_one, ← b3] at hf
  have hl0 := Nat.pos_of_ne_zero S.ol.2.1
  by_cases hx : xl ≤ x
  · exact hx
  exfalso
  have c1 : 10 ^ r ≤ 10 ^ (r' - 1) := ten_le (by omega)
  have c2 : 10 ^ r = 10 ^ (r - 1) * 10 := by rw [← Nat.pow_succ]; congr 1; omega
  have c3 : (ds.getD 0 0 + 1) * 10 ^ (r - 1) ≤ 10 * 10 ^ (r - 1) := Nat.mul_le_mul_right _ (by omega)
  have c4 : 1 * 10 ^ (r' - 1) ≤ ls.getD 0 0 * 10 ^ (r' - 1) := Nat.mul_le_mul_right _ hl0
  have := S.lo
  have := S.h0
  omega
theorem ShSet.xu_ge (S : ShSet ds ls us x xl xu r VD VL VU h) : x ≤ xu := by
  obtain ⟨a1, _, a3, a4, a5, a6, _⟩ := S.dbd
  obtain ⟨r', b1, b2, b3⟩ := S.vu.frame S.ou.1
  have := S.ou.1
  have hf := dp_lt S.ou.2.2.2 r'
  rw [← b3] at hf
  by_cases hx : x ≤ xu
  · exact hx
  exfalso
  have c1 : 10 ^ r' ≤ 10 ^ (r - 1) := ten_le (by omega)
  have c3 : 1 * 10 ^ (r - 1) ≤ ds.getD 0 0 * 10 ^ (r - 1) := Nat.mul_le_mul_right _ a5
  have := S.hi
  omega
theorem ShSet.xl_eq (S : ShSet ds ls us x xl xu r VD VL VU h) (he : ls.getD 0 0 = ds.getD 0 0) : xl = x := by
  have hle := S.xl_le
  obtain ⟨a1, _, a3, a4, a5, a6, _⟩ := S.dbd
  obtain ⟨r', b1, b2, b3⟩ := S.vl.frame S.ol.1
  have := S.ol.1
  have hf := dp_floor S.ol.2.2.2 (i := 1) (r := r') (by omega)
  rw [dp_one, ← b3, he] at hf
  by_cases hx : xl = x
  · exact hx
  exfalso
  have c1 : 10 ^ (r' - 1) ≤ 10 ^ (r - 2) := ten_le (by omega)
  have c2 : 10 ^ (r - 1) = 10 ^ (r - 2) * 10 := by rw [← Nat.pow_succ]; congr 1; omega
  have hl := S.lo
  have h4 := S.h4
  have c3 : (ds.getD 0 0 + 1) * 10 ^ (r' - 1) ≤ (ds.getD 0 0 + 1) * 10 ^ (r - 2) := Nat.mul_le_mul_left _ c1
  rw [c2] at a3
  generalize ds.getD 0 0 = c at *
  generalize 10 ^ (r - 2) = K at *
  have e1 : c * (K * 10) = 10 * (c * K) := by grind
  have e2 : (c + 1) * K = c * K + K := by grind
  have e3 : 1 * K ≤ c * K := Nat.mul_le_mul_right _ a5
  omega
theorem ShSet.xu_eq (S : ShSet ds ls us x xl xu r VD VL VU h) (he : us.getD 0 0 = ds.getD 0 0) : xu = x := by
  have hle := S.xu_ge
  obtain ⟨a1, _, a3, a4, a5, a6, _⟩ := S.dbd
  obtain ⟨r', b1, b2, b3⟩ := S.vu.frame S.ou.1
  have := S.ou.1
  have hf := dp_floor S.ou.2.2.2 (i := 1) (r := r') (by omega)
  rw [dp_one, ← b3, he] at hf
  by_cases hx : xu = x
  · exact hx
  exfalso
  have c1 : 10 ^ r ≤ 10 ^ (r' - 1) := ten_le (by omega)
  have c2 : 10 ^ r = 10 ^ (r - 1) * 10 := by rw [← Nat.pow_succ]; congr 1; omega
  have hl := S.hi
  have h4 := S.h4
  have c3 : ds.getD 0 0 * 10 ^ r ≤ ds.getD 0 0 * 10 ^ (r' - 1) := Nat.mul_le_mul_left _ c1
  rw [c2] at c3
  generalize ds.getD 0 0 = c at *
  generalize 10 ^ (r - 1) = K at *
  have e1 : c * (K * 10) = 10 * (c * K) := by grind
  have e2 : (c + 1) * K = c * K + K := by grind
  have e3 : 1 * K ≤ c * K := Nat.mul_le_mul_right _ a5
  omega
/-- It is right to cut behind figure i. -/
def dnP (ls ds : List Nat) (inc : Prop) (i : Nat) : Prop := ls.getD i 0 ≠ ds.getD i 0 ∨ (inc ∧ i + 1 = ls.length)
/-- It is right to round up behind figure i. -/
def upP (us ds : List Nat) (inc : Prop) (i : Nat) : Prop := ds.getD i 0 ≠ us.getD i 0 ∧ (inc ∨ ds.getD i 0 + 1 < us.getD i 0 ∨ i + 1 < us.length ∨ (us.length ≤ i ∧ ds.getD i 0 < 9))
theorem ShSet.low (S : ShSet ds ls us x xl xu r VD VL VU h) {inc : Prop} {i : Nat} (hi0 : 0 < i) (hr : i ≤ r) (hn : ∀ j, j < i → ¬ dnP ls ds inc j) :
    Dp ds i * 10 ^ (r - i) ≤ VL ∧ (inc → Dp ds i * 10 ^ (r - i) < VL) ∧ h < 10 ^ (r - i) := by
  have he : ∀ j, j < i → ls.getD j 0 = ds.getD j 0 := fun j hj => Classical.byContradiction fun hne => hn j hj (.inl hne)
  obtain rfl := S.xl_eq (he 0 hi0)
  obtain ⟨b1, b2⟩ := S.vl.dp
  obtain ⟨a1, a2⟩ := S.vd.dp
  have hf := dp_floor S.ol.2.2.2 (i := i) (r := r) hr
  have hg := dp_floor S.od.2.2.2 (i := i) (r := r) hr
  rw [← b2, dp_congr he] at hf
  rw [← a2, Nat.add_mul, Nat.one_mul] at hg
  have hlo := S.lo
  refine ⟨hf.1, fun hinc => ?_, by omega⟩
  have hlen : i < ls.length := by
    rcases Nat.lt_or_ge i ls.length with h | h
    · exact h
    · exfalso
      have := S.ol.1
      exact hn (ls.length - 1) (by omega) (.inr ⟨hinc, by omega⟩)
  have := dp_strict S.ol hlen b1
  rw [← b2, dp_congr he] at this
  exact this
theorem ShSet.high (S : ShSet ds ls us x xl xu r VD VL VU h) {inc : Prop} {i : Nat} (hi0 : 0 < i) (hr : i ≤ r) (hn : ∀ j, j < i → ¬ dnP ls ds inc j) (hu : ∀ j, j < i → ¬ upP us ds inc j) :
    VU ≤ (Dp ds i + 1) * 10 ^ (r - i) ∧ (inc → VU < (Dp ds i + 1) * 10 ^ (r - i)) := by
  obtain ⟨l1, _, l3⟩ := S.low hi0 hr hn
  obtain ⟨a1, a2⟩ := S.vd.dp
  have hhi := S.hi
  have hdl := dp_lt S.od.2.2.2 i
  have hg := dp_floor S.od.2.2.2 (i := i) (r := r) hr
  rw [← a2] at hg
  by_cases hinc : inc
  · have he : ∀ j, j < i → us.getD j 0 = ds.getD j 0 := fun j hj => Classical.byContradiction fun hne => hu j hj ⟨fun e => hne e.symm, .inl hinc⟩
    obtain rfl := S.xu_eq (he 0 hi0)
    obtain ⟨b1, b2⟩ := S.vu.dp
    have hf := dp_floor S.ou.2.2.2 (i := i) (r := r) hr
    rw [← b2, dp_congr he] at hf
    exact ⟨Nat.le_of_lt hf.2, fun _ => hf.2⟩
  · refine ⟨?_, fun h => absurd h hinc⟩
    rcases Nat.lt_or_ge ((Dp ds i + 1) * 10 ^ (r - i)) VU with hgt | hle
    · exfalso
      have hK := ten_pos (r - i)
      have hlt : VU < (Dp ds i + 2) * 10 ^ (r - i) := by
        have : (Dp ds i + 2) * 10 ^ (r - i) = (Dp ds i + 1) * 10 ^ (r - i) + 10 ^ (r - i) := by rw [Nat.add_mul, Nat.add_mul]; omega
        omega
      by_cases hx : xu = x
      · subst hx
        obtain ⟨b1, b2⟩ := S.vu.dp
        have hf := dp_floor S.ou.2.2.2 (i := i) (r := r) hr
        rw [← b2] at hf
        have g1 : Dp us i < Dp ds i + 2 := Nat.lt_of_mul_lt_mul_right (a := 10 ^ (r - i)) (by omega)
        have g2 : Dp ds i + 1 < Dp us i + 1 := Nat.lt_of_mul_lt_mul_right (a := 10 ^ (r - i)) (by omega)
        have g3 : Dp us i = Dp ds i + 1 := by omega
        have hlen : i < us.length := by
          rcases Nat.lt_or_ge i us.length with h | h
          · exact h
          · exfalso
            have := dp_exact h hr
            rw [← b2, g3] at this
            omega
        have he : ∀ j, j < i → us.getD j 0 = ds.getD j 0 := fun j hj => Classical.byContradiction fun hne => hu j hj ⟨fun e => hne e.symm, .inr (.inr (.inl (by omega)))⟩
        have := dp_congr he
        omega
      · have hxu := S.xu_ge
        have hne : us.getD 0 0 ≠ ds.getD 0 0 := fun e => hx (S.xu_eq e)
        have hi10 : 10 ^ r = 10 ^ i * 10 ^ (r - i) := by rw [← Nat.pow_add]; congr 1; omega
        obtain ⟨z, hz, hV⟩ := S.vu
        have hn1 := Nd_ge S.ou.1 S.ou.2.1
        have h0u := S.ou.1
        have hVr : 10 ^ r ≤ VU := by
          have c1 : 10 ^ (us.length - 1) * 10 ^ z ≤ Nd us * 10 ^ z := Nat.mul_le_mul_right _ hn1
          rw [← Nat.pow_add] at c1
          have c2 : 10 ^ r ≤ 10 ^ (us.length - 1 + z) := ten_le (by omega)
          omega
        have g1 : 10 ^ i < Dp ds i + 2 := Nat.lt_of_mul_lt_mul_right (a := 10 ^ (r - i)) (by omega)
        have g2 : Dp ds i + 1 = 10 ^ i := by omega
        rw [g2, ← hi10] at hgt
        have hlen : 1 < us.length := by
          rcases Nat.lt_or_ge 1 us.length with h | h
          · exact h
          · exfalso
            have e1 : us.length = 1 := by omega
            have hr10 : 10 ^ z = 10 ^ r * 10 ^ (z - r) := by rw [← Nat.pow_add]; congr 1; omega
            rw [hr10, ← Nat.mul_assoc, Nat.mul_comm (Nd us), Nat.mul_assoc] at hV
            have h4 := S.h4
            have hD := hg.2
            rw [g2, ← hi10] at hD
            generalize Nd us * 10 ^ (z - r) = q at hV
            generalize 10 ^ r = K at *
            have q1 : 1 < q := by
              rcases Nat.lt_or_ge 1 q with h | h
              · exact h
              · have : K * q ≤ K * 1 := Nat.mul_le_mul_left _ h
                omega
            have q2 : K * 2 ≤ K * q := Nat.mul_le_mul_left _ q1
            omega
        exact hu 0 hi0 ⟨fun e => hne e.symm, .inr (.inr (.inl (by omega)))⟩
    · exact hle
theorem ShSet.down (S : ShSet ds ls us x xl xu r VD VL VU h) {inc : Prop} {i : Nat} (hr : i < r) (hn : ∀ j, j < i → ¬ dnP ls ds inc j) (hd : dnP ls ds inc i) :
    VL ≤ Dp ds (i + 1) * 10 ^ (r - (i + 1)) ∧ (¬ inc → VL < Dp ds (i + 1) * 10 ^ (r - (i + 1))) := by
  obtain ⟨a1, _, a3, a4, a5, a6, _⟩ := S.dbd
  obtain ⟨d1, d2⟩ := S.vd.dp
  have hlo := S.lo
  have h0 := S.h0
  have hg := dp_floor S.od.2.2.2 (i := i + 1) (r := r) hr
  rw [← d2] at hg
  by_cases hx : xl = x
  · subst hx
    have he : ∀ j, j < i → ls.getD j 0 = ds.getD j 0 := fun j hj => Classical.byContradiction fun hne => hn j hj (.inl hne)
    obtain ⟨b1, b2⟩ := S.vl.dp
    have hf := dp_floor S.ol.2.2.2 (i := i + 1) (r := r) hr
    rw [← b2] at hf
    have hc := dp_congr he
    have s1 := Dp_succ ls i
    have s2 := Dp_succ ds i
    by_cases hne : ls.getD i 0 = ds.getD i 0
    · rcases hd with hd | ⟨hinc, hlen⟩
      · exact absurd hne hd
      · have hex := dp_exact (ds := ls) (i := i + 1) (r := r) (by omega) hr
        rw [show Dp ls (i + 1) = Dp ds (i + 1) by omega, ← b2] at hex
        exact ⟨Nat.le_of_eq hex, fun h => absurd hinc h⟩
    · have g1 : Dp ls (i + 1) < Dp ds (i + 1) + 1 := Nat.lt_of_mul_lt_mul_right (a := 10 ^ (r - (i + 1))) (by omega)
      have g2 : Dp ls (i + 1) + 1 ≤ Dp ds (i + 1) := by omega
      have g3 := Nat.mul_le_mul_right (10 ^ (r - (i + 1))) g2
      exact ⟨by omega, fun _ => by omega⟩
  · have hxl := S.xl_le
    have hi0 : i = 0 := by
      rcases Nat.eq_zero_or_pos i with h | h
      · exact h
      · exact absurd (S.xl_eq (Classical.byContradiction fun hne => hn 0 h (.inl hne))) hx
    subst hi0
    obtain ⟨r', b1, b2, b3⟩ := S.vl.frame S.ol.1
    have hf := dp_lt S.ol.2.2.2 r'
    rw [← b3] at hf
    have c1 : 10 ^ r' ≤ 10 ^ (r - 1) := ten_le (by omega)
    rw [Nat.zero_add, dp_one]
    have c3 : 1 * 10 ^ (r - 1) ≤ ds.getD 0 0 * 10 ^ (r - 1) := Nat.mul_le_mul_right _ a5
    exact ⟨by omega, fun _ => by omega⟩
theorem ShSet.up (S : ShSet ds ls us x xl xu r VD VL VU h) {inc : Prop} {i : Nat} (hr : i < r) (hn : ∀ j, j < i → ¬ upP us ds inc j) (hu : upP us ds inc i) :
    (Dp ds (i + 1) + 1) * 10 ^ (r - (i + 1)) ≤ VU ∧ (¬ inc → (Dp ds (i + 1) + 1) * 10 ^ (r - (i + 1)) < VU) := by
  obtain ⟨d1, d2⟩ := S.vd.dp
  have hhi := S.hi
  have h0 := S.h0
  have hg := dp_floor S.od.2.2.2 (i := i + 1) (r := r) hr
  have hg' := dp_floor S.od.2.2.2 (i := i) (r := r) (by omega)
  rw [← d2] at hg hg'
  have s2 := Dp_succ ds i
  have hK := ten_pos (r - (i + 1))
  have hdi := getD_lt (j := i) S.od.2.2.2
  have hui := getD_lt (j := i) S.ou.2.2.2
  have hKi : 10 ^ (r - i) = 10 * 10 ^ (r - (i + 1)) := by rw [Nat.mul_comm, ← Nat.pow_succ]; congr 1; omega
  by_cases hx : xu = x
  · subst hx
    obtain ⟨b1, b2⟩ := S.vu.dp
    have hf := dp_floor S.ou.2.2.2 (i := i + 1) (r := r) hr
    rw [← b2] at hf
    by_cases he : ∀ j, j < i → us.getD j 0 = ds.getD j 0
    · have hc := dp_congr he
      have s1 := Dp_succ us i
      have g1 : Dp ds (i + 1) < Dp us (i + 1) + 1 := Nat.lt_of_mul_lt_mul_right (a := 10 ^ (r - (i + 1))) (by omega)
      have hne := hu.1
      have g2 : Dp ds (i + 1) + 1 ≤ Dp us (i + 1) := by omega
      have g3 := Nat.mul_le_mul_right (10 ^ (r - (i + 1))) g2
      refine ⟨by omega, fun hinc => ?_⟩
      rcases hu.2 with q | q | q | ⟨q, _⟩
      · exact absurd q hinc
      · have g4 : Dp ds (i + 1) + 2 ≤ Dp us (i + 1) := by omega
        have g5 := Nat.mul_le_mul_right (10 ^ (r - (i + 1))) g4
        rw [Nat.add_mul] at g5 ⊢
        omega
      · have := dp_strict S.ou q b1
        rw [← b2] at this
        omega
      · exfalso
        have := gd_ge q
        omega
    · obtain ⟨j, hj, hjne⟩ : ∃ j, j < i ∧ us.getD j 0 ≠ ds.getD j 0 := Classical.byContradiction fun hno => he fun j hj => Classical.byContradiction fun hne => hno ⟨j, hj, hne⟩
      have hnj := hn j hj
      have hinc : ¬ inc := fun hinc => hnj ⟨fun e => hjne e.symm, .inl hinc⟩
      have hlen : us.length ≤ i := by
        rcases Nat.lt_or_ge (j + 1) us.length with h | h
        · exact absurd ⟨fun e => hjne e.symm, .inr (.inr (.inl h))⟩ hnj
        · omega
      have hex := dp_exact hlen (r := r) (by omega)
      rw [← b2] at hex
      have g1 : Dp ds i < Dp us i := Nat.lt_of_mul_lt_mul_right (a := 10 ^ (r - i)) (by omega)
      have g2 := Nat.mul_le_mul_right (10 ^ (r - i)) g1
      have hd9 : ds.getD i 0 < 9 := by
        rcases hu.2 with q | q | q | ⟨_, q⟩
        · exact absurd q hinc
        · rw [gd_ge hlen] at q; omega
        · omega
        · exact q
      have g3 : (Dp ds (i + 1) + 2) * 10 ^ (r - (i + 1)) ≤ (Dp ds i + 1) * 10 ^ (r - i) := by
        rw [hKi, ← Nat.mul_assoc]
        exact Nat.mul_le_mul_right _ (by omega)
      rw [Nat.succ_eq_add_one] at g2
      rw [Nat.add_mul] at g3 ⊢
      exact ⟨by omega, fun _ => by omega⟩
  · have hxu := S.xu_ge
    obtain ⟨z, hz, hV⟩ := S.vu
    have hn1 := Nd_ge S.ou.1 S.ou.2.1
    have h0u := S.ou.1
    have hVr : 10 ^ r ≤ VU := by
      have c1 : 10 ^ (us.length - 1) * 10 ^ z ≤ Nd us * 10 ^ z := Nat.mul_le_mul_right _ hn1
      rw [← Nat.pow_add] at c1
      have c2 : 10 ^ r ≤ 10 ^ (us.length - 1 + z) := ten_le (by omega)
      omega
    have hdl := dp_lt S.od.2.2.2 (i + 1)
    have hr10 : 10 ^ r = 10 ^ (i + 1) * 10 ^ (r - (i + 1)) := by rw [← Nat.pow_add]; congr 1; omega
    have g0 : (Dp ds (i + 1) + 1) * 10 ^ (r - (i + 1)) ≤ 10 ^ (i + 1) * 10 ^ (r - (i + 1)) := Nat.mul_le_mul_right _ hdl
    refine ⟨by omega, fun hinc => ?_⟩
    by_cases h9 : ds.getD i 0 < 9
    · have hdl' := dp_lt S.od.2.2.2 i
      have hi10 : 10 ^ (i + 1) = 10 ^ i * 10 := Nat.pow_succ _ _
      have g1 : (Dp ds (i + 1) + 2) * 10 ^ (r - (i + 1)) ≤ 10 ^ (i + 1) * 10 ^ (r - (i + 1)) := Nat.mul_le_mul_right _ (by omega)
      rw [Nat.add_mul] at g1 ⊢
      omega
    · have hlen : i + 1 < us.length := by
        rcases hu.2 with q | q | q | ⟨_, q⟩
        · exact absurd q hinc
        · omega
        · exact q
        · exact absurd q h9
      have hst := dp_strict S.ou (i := 1) (r := us.length) (by omega) (Nat.le_refl _)
      rw [dp_one, Dp_len] at hst
      have hu0 := Nat.pos_of_ne_zero S.ou.2.1
      have c0 : 1 * 10 ^ (us.length - 1) ≤ us.getD 0 0 * 10 ^ (us.length - 1) := Nat.mul_le_mul_right _ hu0
      have c1 : (10 ^ (us.length - 1) + 1) * 10 ^ z ≤ Nd us * 10 ^ z := Nat.mul_le_mul_right _ (by omega)
      rw [Nat.add_mul, ← Nat.pow_add] at c1
      have c2 : 10 ^ r ≤ 10 ^ (us.length - 1 + z) := ten_le (by omega)
      have c3 := ten_pos z
      omega
/-- What the shortest decimal is: within the bounds, and none with a figure less is within. -/
def ShPost (r VL VU : Nat) (x : Int) (inc : Prop) (ds' : List Nat) (x' : Int) : Prop :=
  ∃ z : Nat, (z : Int) = r + x' - x - ds'.length ∧ VL ≤ Nd ds' * 10 ^ z ∧ Nd ds' * 10 ^ z ≤ VU ∧ (¬ inc → VL < Nd ds' * 10 ^ z ∧ Nd ds' * 10 ^ z < VU) ∧ (2 ≤ ds'.length → Nd ds' / 10 * 10 ^ (z + 1) ≤ VL ∧ VU ≤ (Nd ds' / 10 + 1) * 10 ^ (z + 1))
theorem ShSet.whole (S : ShSet ds ls us x xl xu r VD VL VU h) {inc : Prop} {i : Nat} (hi : ds.length ≤ i + 1) (hn : ∀ j, j < i → ¬ dnP ls ds inc j) (hu : ∀ j, j < i → ¬ upP us ds inc j) : ShPost r VL VU x inc ds x := by
  obtain ⟨z, hz, hV⟩ := S.vd
  have h1 := S.lo
  have h2 := S.hi
  have h3 := S.h0
  refine ⟨z, hz, by omega, by omega, fun _ => by omega, fun h2l => ?_⟩
  have hl := S.low (i := ds.length - 1) (by omega) (by omega) (fun j hj => hn j (by omega))
  have hh := S.high (i := ds.length - 1) (by omega) (by omega) (fun j hj => hn j (by omega)) (fun j hj => hu j (by omega))
  have hq : Nd ds / 10 = Dp ds (ds.length - 1) := by
    have := Dp_succ ds (ds.length - 1)
    rw [show ds.length - 1 + 1 = ds.length by omega, Dp_len] at this
    have := getD_lt (j := ds.length - 1) S.od.2.2.2
    omega
  rw [hq, show z + 1 = r - (ds.length - 1) by omega]
  exact ⟨hl.1, hh.1⟩
theorem ShSet.cut (S : ShSet ds ls us x xl xu r VD VL VU h) {inc : Prop} {i T e : Nat} {ds' : List Nat} {x' : Int} (hi : i < r) (hn : ∀ j, j < i → ¬ dnP ls ds inc j) (hu : ∀ j, j < i → ¬ upP us ds inc j)
    (hT : T = Dp ds (i + 1) ∨ T = Dp ds (i + 1) + 1) (hTe : T = Nd ds' * 10 ^ e) (he : (e : Int) = ((i + 1 : Nat) : Int) + (x' - x) - ds'.length) (hlen : ds'.length ≤ i + 1)
    (h1 : VL ≤ T * 10 ^ (r - (i + 1))) (h2 : T * 10 ^ (r - (i + 1)) ≤ VU) (h3 : ¬ inc → VL < T * 10 ^ (r - (i + 1)) ∧ T * 10 ^ (r - (i + 1)) < VU) : ShPost r VL VU x inc ds' x' := by
  have hz : Nd ds' * 10 ^ (r - (i + 1) + e) = T * 10 ^ (r - (i + 1)) := by rw [hTe, Nat.pow_add]; grind
  refine ⟨r - (i + 1) + e, by omega, by rw [hz]; exact h1, by rw [hz]; exact h2, fun hinc => by rw [hz]; exact h3 hinc, fun h2l => ?_⟩
  have hi0 : 0 < i := by omega
  obtain ⟨l1, l2, _⟩ := S.low hi0 (by omega) hn
  obtain ⟨u1, u2⟩ := S.high hi0 (by omega) hn hu
  have s2 := Dp_succ ds i
  have hg := getD_lt (j := i) S.od.2.2.2
  have hKi : 10 ^ (r - i) = 10 * 10 ^ (r - (i + 1)) := by rw [Nat.mul_comm, ← Nat.pow_succ]; congr 1; omega
  -- T is no multiple of 10
  have hno : ∀ G, T = 10 * G → False := by
    intro G hG
    have hGT : T * 10 ^ (r - (i + 1)) = G * 10 ^ (r - i) := by rw [hG, hKi]; grind
    rw [hGT] at h1 h2 h3
    have hcase : G = Dp ds i ∨ G = Dp ds i + 1 := by omega
    by_cases hinc : inc
    · have := l2 hinc
      have := u2 hinc
      rcases hcase with rfl | rfl <;> omega
    · have := h3 hinc
      rcases hcase with rfl | rfl <;> omega
  have he0 : e = 0 := by
    rcases Nat.eq_zero_or_pos e with h | h
    · exact h
    · exfalso
      obtain ⟨k, rfl⟩ : ∃ k, e = k + 1 := ⟨e - 1, by omega⟩
      exact hno (Nd ds' * 10 ^ k) (by rw [hTe, Nat.pow_succ]; grind)
  subst he0
  have hN : Nd ds' = T := by rw [hTe]; simp
  have hq : T / 10 = Dp ds i := by
    rcases hT with h | h
    · omega
    · by_cases h9 : ds.getD i 0 = 9
      · exact absurd (show T = 10 * (Dp ds i + 1) by omega) (hno _)
      · omega
  rw [hN, hq, show r - (i + 1) + 0 + 1 = r - i by omega]
  exact ⟨l1, u1⟩
end
/-- A number nearest to N by 10^k lies next to it. -/
theorem near_next {F R D T : Nat} (hR : R < D) (h : Near (F * D + R) D T) : T = F ∨ T = F + 1 := by
  obtain ⟨h1, h2⟩ := h
  have a1 : (2 * T + 1) * D = 2 * (T * D) + D := by grind
  have a2 : 2 * T * D = 2 * (T * D) := by grind
  rw [a1] at h1
  rw [a2] at h2
  have hD : 0 < D := by omega
  have b1 : F < T + 1 := Nat.lt_of_mul_lt_mul_right (a := D) (by rw [Nat.add_mul]; omega)
  have b2 : T < F + 2 := Nat.lt_of_mul_lt_mul_right (a := D) (by rw [Nat.add_mul]; omega)
  omega
/-- What a step of 'roundShortest' leaves: the figures as they are, cut or rounded up behind figure i. -/
def ShStep (ds ls us : List Nat) (x : Int) (inc : Prop) (i : Nat) (ds' : List Nat) (x' : Int) : Prop :=
  (ds.length ≤ i + 1 ∧ ds' = ds ∧ x' = x) ∨
  (i + 1 < ds.length ∧ DOrd ds' ∧ ds'.length ≤ i + 1 ∧ ∃ T e : Nat, T = Nd ds' * 10 ^ e ∧ (e : Int) = ((i + 1 : Nat) : Int) + (x' - x) - ds'.length ∧ ((T = Dp ds (i + 1) ∧ dnP ls ds inc i) ∨ (T = Dp ds (i + 1) + 1 ∧ upP us ds inc i)))
/-- The whole of it: no earlier figure decides. -/
def ShAll (ds ls us : List Nat) (x : Int) (inc : Prop) (ds' : List Nat) (x' : Int) : Prop :=
  ∃ i, (∀ j, j < i → ¬ dnP ls ds inc j) ∧ (∀ j, j < i → ¬ upP us ds inc j) ∧ ShStep ds ls us x inc i ds' x'
theorem ShSet.all {ds ls us : List Nat} {x xl xu : Int} {r VD VL VU h : Nat} (S : ShSet ds ls us x xl xu r VD VL VU h) {inc : Prop} {ds' : List Nat} {x' : Int} (hA : ShAll ds ls us x inc ds' x') : ShPost r VL VU x inc ds' x' ∧ DOrd ds' := by
  obtain ⟨i, hn, hu, ⟨hl, rfl, rfl⟩ | ⟨hl, ho, hlen, T, e, hTe, he, hT⟩⟩ := hA
  · exact ⟨S.whole hl hn hu, S.od⟩
  · obtain ⟨d1, d2⟩ := S.vd.dp
    have h1 := S.lo
    have h2 := S.hi
    have h3 := S.h0
    have hf := dp_floor S.od.2.2.2 (i := i + 1) (r := r) (by omega)
    rw [← d2] at hf
    refine ⟨?_, ho⟩
    rcases hT with ⟨hT, hd⟩ | ⟨hT, hup⟩
    · obtain ⟨g1, g2⟩ := S.down (by omega) hn hd
      rw [← hT] at g1 g2 hf
      exact S.cut (by omega) hn hu (.inl hT) hTe he hlen g1 (by omega) (fun hinc => ⟨g2 hinc, by omega⟩)
    · obtain ⟨g1, g2⟩ := S.up (by omega) hu hup
      rw [← hT] at g1 g2 hf
      exact S.cut (by omega) hn hu (.inr hT) hTe he hlen (by omega) g1 (fun hinc => ⟨by omega, g2 hinc⟩)
/-- N by 10 to e and K by 2 to t, on a common scale. -/
def dP (t e : Int) (N : Nat) : Nat := N * 10 ^ e.toNat * 2 ^ (-t).toNat
def dQ (t e : Int) (K : Nat) : Nat := K * 2 ^ t.toNat * 10 ^ (-e).toNat
theorem unit_val {Y : Nat} {t y x : Int} {es : List Nat} {r V a b : Nat} (h : DecPure Y t es y) (hu : InU es y x r V) (hab : (a : Int) - b = r - x) : V * (2 ^ (-t).toNat * 10 ^ b) = Y * (2 ^ t.toNat * 10 ^ a) := by
  have hv := h.val
  obtain ⟨z, hz, rfl⟩ := hu
  obtain ⟨u, hu⟩ : ∃ u, u = ((es.length : Int) - y).toNat := ⟨_, rfl⟩
  obtain ⟨v, hv'⟩ : ∃ v, v = (y - (es.length : Int)).toNat := ⟨_, rfl⟩
  rw [← hu, ← hv'] at hv
  have hs : z + u + b = a + v := by omega
  apply Nat.eq_of_mul_eq_mul_right (ten_pos u)
  have e1 : Nd es * 10 ^ z * (2 ^ (-t).toNat * 10 ^ b) * 10 ^ u = Nd es * 10 ^ (z + u + b) * 2 ^ (-t).toNat := by rw [Nat.pow_add, Nat.pow_add]; grind
  have e2 : Y * (2 ^ t.toNat * 10 ^ a) * 10 ^ u = Y * 2 ^ t.toNat * 10 ^ u * 10 ^ a := by grind
  rw [e1, e2, hv, hs, Nat.pow_add]; grind
theorem DecPure.ord {Y : Nat} {t y : Int} {es : List Nat} (h : DecPure Y t es y) : DOrd es := ⟨h.2.1, h.2.2.1, h.2.2.2.1, h.2.2.2.2.1⟩
theorem sh_set {M : Nat} {t x xl xu : Int} {ds ls us : List Nat} (hD : DecPure M t ds x) (hL : DecPure (M - 1) t ls xl) (hU : DecPure (M + 1) t us xu) (h4 : 4 ≤ M) :
    ∃ r VD VL VU h a b : Nat, ShSet ds ls us x xl xu r VD VL VU h ∧ (a : Int) - b = r - x ∧ VL * (2 ^ (-t).toNat * 10 ^ b) = (M - 1) * (2 ^ t.toNat * 10 ^ a) ∧ VU * (2 ^ (-t).toNat * 10 ^ b) = (M + 1) * (2 ^ t.toNat * 10 ^ a) := by
  obtain ⟨r, hr⟩ : ∃ r, r = ds.length + ls.length + us.length + (x - xl).toNat + (x - xu).toNat := ⟨_, rfl⟩
  obtain ⟨a, ha⟩ : ∃ a, a = ((r : Int) - x).toNat := ⟨_, rfl⟩
  obtain ⟨b, hb⟩ : ∃ b, b = (x - (r : Int)).toNat := ⟨_, rfl⟩
  have hab : (a : Int) - b = r - x := by omega
  have iD : InU ds x x r (Nd ds * 10 ^ ((r : Int) + x - x - ds.length).toNat) := ⟨_, by omega, rfl⟩
  have iL : InU ls xl x r (Nd ls * 10 ^ ((r : Int) + xl - x - ls.length).toNat) := ⟨_, by omega, rfl⟩
  have iU : InU us xu x r (Nd us * 10 ^ ((r : Int) + xu - x - us.length).toNat) := ⟨_, by omega, rfl⟩
  have vD := unit_val hD iD hab
  have vL := unit_val hL iL hab
  have vU := unit_val hU iU hab
  generalize Nd ds * 10 ^ ((r : Int) + x - x - ds.length).toNat = VD at *
  generalize Nd ls * 10 ^ ((r : Int) + xl - x - ls.length).toNat = VL at *
  generalize Nd us * 10 ^ ((r : Int) + xu - x - us.length).toNat = VU at *
  have hc : 0 < 2 ^ (-t).toNat * 10 ^ b := Nat.mul_pos (Nat.two_pow_pos _) (ten_pos _)
  have hc' : 0 < 2 ^ t.toNat * 10 ^ a := Nat.mul_pos (Nat.two_pow_pos _) (ten_pos _)
  refine ⟨r, VD, VL, VU, VD - VL, a, b, ?_, hab, vL, vU⟩
  generalize 2 ^ (-t).toNat * 10 ^ b = c at *
  generalize 2 ^ t.toNat * 10 ^ a = c' at *
  obtain ⟨K, rfl⟩ : ∃ K, M = K + 1 := ⟨M - 1, by omega⟩
  rw [Nat.add_sub_cancel] at vL
  rw [Nat.add_mul, Nat.one_mul] at vD
  have vU' : VU * c = K * c' + c' + c' := by rw [vU]; grind
  have l1 : VL < VD := Nat.lt_of_mul_lt_mul_right (a := c) (by omega)
  have l2 : (VD - VL) * c = c' := by rw [Nat.sub_mul]; omega
  have l3 : VD + (VD - VL) = VU := by
    apply Nat.eq_of_mul_eq_mul_right hc
    rw [Nat.add_mul, l2]; omega
  have l4 : 4 * (VD - VL) ≤ VD := by
    apply Nat.le_of_mul_le_mul_right _ hc
    rw [Nat.mul_assoc, l2, vD]
    have : 3 * c' ≤ K * c' := Nat.mul_le_mul_right _ (by omega)
    omega
  exact ⟨hD.ord, hL.ord, hU.ord, iD, iL, iU, by omega, l3, by omega, l4⟩
/-- The same comparison on both scales. -/
theorem scale_pq {N K V z a b r : Nat} {t x e : Int} (hab : (a : Int) - b = r - x) (hz : (z : Int) = r - x + e) (hV : V * (2 ^ (-t).toNat * 10 ^ b) = K * (2 ^ t.toNat * 10 ^ a)) :
    ∃ s1 s2, 0 < s1 ∧ 0 < s2 ∧ N * 10 ^ z * s1 = dP t e N * s2 ∧ V * s1 = dQ t e K * s2 := by
  refine ⟨2 ^ (-t).toNat * 10 ^ b * 10 ^ (-e).toNat, 10 ^ a, Nat.mul_pos (Nat.mul_pos (Nat.two_pow_pos _) (ten_pos _)) (ten_pos _), ten_pos _, ?_, ?_⟩
  · unfold dP
    have hs : z + b + (-e).toNat = a + e.toNat := by omega
    have e1 : N * 10 ^ z * (2 ^ (-t).toNat * 10 ^ b * 10 ^ (-e).toNat) = N * 10 ^ (z + b + (-e).toNat) * 2 ^ (-t).toNat := by rw [Nat.pow_add, Nat.pow_add]; grind
    rw [e1, hs, Nat.pow_add]; grind
  · unfold dQ
    rw [← Nat.mul_assoc, hV]; grind
theorem le_scale {A B A' B' s1 s2 : Nat} (h1 : 0 < s1) (h2 : 0 < s2) (hA : A * s1 = A' * s2) (hB : B * s1 = B' * s2) (h : A ≤ B) : A' ≤ B' := by
  apply Nat.le_of_mul_le_mul_right _ h2
  rw [← hA, ← hB]; exact Nat.mul_le_mul_right _ h
theorem lt_scale {A B A' B' s1 s2 : Nat} (h1 : 0 < s1) (h2 : 0 < s2) (hA : A * s1 = A' * s2) (hB : B * s1 = B' * s2) (h : A < B) : A' < B' := by
  apply Nat.lt_of_mul_lt_mul_right (a := s2)
  rw [← hA, ← hB]; exact Nat.mul_lt_mul_of_pos_right h h1
/-- The shortest decimal N by 10 to e (of n figures): within half a unit of M by 2 to t, and none with a figure less is. -/
def ShFin (M : Nat) (t : Int) (inc : Prop) (N n : Nat) (e : Int) : Prop :=
  dQ t e (M - 1) ≤ dP t e N ∧ dP t e N ≤ dQ t e (M + 1) ∧ (¬ inc → dQ t e (M - 1) < dP t e N ∧ dP t e N < dQ t e (M + 1)) ∧
    (2 ≤ n → dP t (e + 1) (N / 10) ≤ dQ t (e + 1) (M - 1) ∧ dQ t (e + 1) (M + 1) ≤ dP t (e + 1) (N / 10 + 1))
theorem short_final {M : Nat} {t x xl xu x' : Int} {inc : Prop} {ds ls us ds' : List Nat} (hD : DecPure M t ds x) (hL : DecPure (M - 1) t ls xl) (hU : DecPure (M + 1) t us xu) (h4 : 4 ≤ M) (hA : ShAll ds ls us x inc ds' x') :
    DOrd ds' ∧ ShFin M t inc (Nd ds') ds'.length (x' - ds'.length) := by
  obtain ⟨r, VD, VL, VU, h, a, b, S, hab, vL, vU⟩ := sh_set hD hL hU h4
  obtain ⟨⟨z, hz, p1, p2, p3, p4⟩, ho⟩ := S.all hA
  refine ⟨ho, ?_⟩
  obtain ⟨s1, s2, k1, k2, k3, k4⟩ := scale_pq (N := Nd ds') (e := x' - ds'.length) hab (z := z) (by omega) vL
  obtain ⟨t1, t2, j1, j2, j3, j4⟩ := scale_pq (N := Nd ds') (e := x' - ds'.length) hab (z := z) (by omega) vU
  refine ⟨le_scale k1 k2 k4 k3 p1, le_scale j1 j2 j3 j4 p2, fun hi => ⟨lt_scale k1 k2 k4 k3 (p3 hi).1, lt_scale j1 j2 j3 j4 (p3 hi).2⟩, fun hn => ?_⟩
  obtain ⟨q1, q2⟩ := p4 hn
  obtain ⟨s1, s2, k1, k2, k3, k4⟩ := scale_pq (N := Nd ds' / 10) (e := x' - ds'.length + 1) hab (z := z + 1) (by omega) vL
  obtain ⟨t1, t2, j1, j2, j3, j4⟩ := scale_pq (N := Nd ds' / 10 + 1) (e := x' - ds'.length + 1) hab (z := z + 1) (by omega) vU
  exact ⟨le_scale k1 k2 k3 k4 q1, le_scale j1 j2 j4 j3 q2⟩
/-- q by 2 to n, rounded to the nearest, of two to the even one. -/
def rhe (q n : Nat) : Nat := if 2 ^ n < 2 * (q % 2 ^ n) ∨ (2 * (q % 2 ^ n) = 2 ^ n ∧ q / 2 ^ n % 2 = 1) then q / 2 ^ n + 1 else q / 2 ^ n
theorem rhe_near {q n m : Nat} (h1 : (2 * m - 1) * 2 ^ n ≤ 2 * q) (h2 : 2 * q ≤ (2 * m + 1) * 2 ^ n) (h3 : m % 2 = 1 → (2 * m - 1) * 2 ^ n < 2 * q ∧ 2 * q < (2 * m + 1) * 2 ^ n) (hm : 0 < m) : rhe q n = m := by
  have hD := Nat.two_pow_pos n
  unfold rhe
  have hdm := Nat.div_add_mod q (2 ^ n)
  have hR := Nat.mod_lt q hD
  generalize q / 2 ^ n = Q at *
  generalize q % 2 ^ n = R at *
  generalize 2 ^ n = D at *
  obtain ⟨k, rfl⟩ : ∃ k, m = k + 1 := ⟨m - 1, by omega⟩
  have e1 : (2 * (k + 1) - 1) * D = 2 * (k * D) + D := by rw [show 2 * (k + 1) - 1 = 2 * k + 1 by omega]; grind
  have e2 : (2 * (k + 1) + 1) * D = 2 * (k * D) + 3 * D := by grind
  rw [e1] at h1 h3
  rw [e2] at h2 h3
  have e3 : D * Q = Q * D := Nat.mul_comm _ _
  rw [e3] at hdm
  have b1 : Q < k + 2 := Nat.lt_of_mul_lt_mul_right (a := D) (by rw [Nat.add_mul]; omega)
  have b2 : k < Q + 1 := Nat.lt_of_mul_lt_mul_right (a := D) (by rw [Nat.add_mul]; omega)
  rcases (show Q = k ∨ Q = k + 1 by omega) with rfl | rfl
  · by_cases hlt : D < 2 * R
    · rw [if_pos (.inl hlt)]
    · have he : 2 * R = D := by omega
      have ho : Q % 2 = 1 := by
        by_cases hk : (Q + 1) % 2 = 1
        · have := h3 hk; omega
        · omega
      rw [if_pos (.inr ⟨he, ho⟩)]
  · have e4 : (k + 1) * D = k * D + D := by rw [Nat.add_mul, Nat.one_mul]
    rw [e4] at hdm
    rw [if_neg]
    rintro (h | ⟨h, ho⟩)
    · omega
    · have := h3 ho; omega
/-- The last digit of a quotient that stands for all that is behind it. -/
theorem sticky_le {A B z : Nat} (hB : 0 < B) (h : A ≤ z * B) : 2 * (A / B) + (if A % B = 0 then 0 else 1) ≤ 2 * z := by
  have h1 := Nat.div_add_mod A B
  have h2 := Nat.mod_lt A hB
  generalize A / B = q at *
  generalize A % B = r at *
  rw [Nat.mul_comm] at h1
  have : q < z + 1 := Nat.lt_of_mul_lt_mul_right (a := B) (by rw [Nat.add_mul]; omega)
  by_cases hq : q = z
  · subst hq
    rw [if_pos (by omega)]; omega
  · split <;> omega
theorem sticky_lt {A B z : Nat} (hB : 0 < B) (h : A < z * B) : 2 * (A / B) + (if A % B = 0 then 0 else 1) < 2 * z := by
  have h1 := Nat.div_add_mod A B
  generalize A / B = q at *
  generalize A % B = r at *
  rw [Nat.mul_comm] at h1
  have : q < z := Nat.lt_of_mul_lt_mul_right (a := B) (by omega)
  split <;> omega
theorem sticky_ge {A B z : Nat} (hB : 0 < B) (h : z * B ≤ A) : 2 * z ≤ 2 * (A / B) + (if A % B = 0 then 0 else 1) := by
  have : z ≤ A / B := (Nat.le_div_iff_mul_le hB).2 h
  omega
theorem sticky_gt {A B z : Nat} (hB : 0 < B) (h : z * B < A) : 2 * z < 2 * (A / B) + (if A % B = 0 then 0 else 1) := by
  have h0 : z ≤ A / B := (Nat.le_div_iff_mul_le hB).2 (Nat.le_of_lt h)
  by_cases hq : A / B = z
  · have h1 := Nat.div_add_mod A B
    rw [hq, Nat.mul_comm] at h1
    rw [if_neg (by omega)]; omega
  · omega
/-- The quotient of Ahead. -/
def stq (A B : Nat) : Nat := 2 * (A / B) + (if A % B = 0 then 0 else 1)
theorem Vb_div (l : List Nat) (hb : ∀ d ∈ l, d < 65536) : ∀ q, Vb l / 65536 ^ q = Vb (l.drop q)
  | 0 => by simp
  | q + 1 => by
    rw [Nat.pow_succ, ← Nat.div_div_eq_div_mul, Vb_div l hb q]
    rcases Nat.lt_or_ge q l.length with h | h
    · have hd : l.drop q = l[q] :: l.drop (q + 1) := List.drop_eq_getElem_cons h
      have := hb l[q] (List.getElem_mem h)
      rw [hd]; simp only [Vb]; omega
    · rw [List.drop_of_length_le h, List.drop_of_length_le (by omega)]; simp [Vb]
theorem Vb_two (l : List Nat) (q : Nat) : ∃ R, Vb (l.drop q) = l.getD q 0 + 65536 * (l.getD (q + 1) 0 + 65536 * R) := by
  rcases Nat.lt_or_ge q l.length with h | h
  · have hd : l.drop q = l[q] :: l.drop (q + 1) := List.drop_eq_getElem_cons h
    rcases Nat.lt_or_ge (q + 1) l.length with h2 | h2
    · have hd2 : l.drop (q + 1) = l[q + 1] :: l.drop (q + 1 + 1) := List.drop_eq_getElem_cons h2
      exact ⟨Vb (l.drop (q + 1 + 1)), by rw [hd, hd2, gd_lt h, gd_lt h2]; simp only [Vb]⟩
    · exact ⟨0, by rw [hd, List.drop_of_length_le h2, gd_lt h, gd_ge h2]; simp [Vb]⟩
  · exact ⟨0, by rw [List.drop_of_length_le h, gd_ge h, gd_ge (by omega)]; simp [Vb]⟩
/-- The digit at a bit of a number. -/
theorem Vb_bits {l : List Nat} (hb : ∀ d ∈ l, d < 65536) {q r : Nat} (hr : r < 16) : Vb l / 2 ^ (16 * q + r) % 65536 = (l.getD q 0 + 65536 * l.getD (q + 1) 0) / 2 ^ r % 65536 := by
  obtain ⟨R, hR⟩ := Vb_two l q
  rw [Nat.pow_add, Nat.pow_mul, show (2 : Nat) ^ 16 = 65536 by decide, ← Nat.div_div_eq_div_mul, Vb_div l hb q, hR]
  obtain ⟨t, ht⟩ : ∃ t, 65536 = 2 ^ r * t := ⟨2 ^ (16 - r), by rw [← Nat.pow_add, show r + (16 - r) = 16 by omega]⟩
  have e : l.getD q 0 + 65536 * (l.getD (q + 1) 0 + 65536 * R) = (l.getD q 0 + 65536 * l.getD (q + 1) 0) + 2 ^ r * (t * (65536 * R)) := by
    rw [← Nat.mul_assoc (2 ^ r), ← ht]; grind
  rw [e, Nat.add_mul_div_left _ _ (Nat.two_pow_pos r), show t * (65536 * R) = 65536 * (t * R) by grind, Nat.add_mul_mod_self_left]
theorem Vb_bit1 {l : List Nat} (hb : ∀ d ∈ l, d < 65536) {q r : Nat} (hr : r < 16) : Vb l / 2 ^ (16 * q + r) % 2 = l.getD q 0 / 2 ^ r % 2 := by
  have h := Vb_bits hb (q := q) hr
  have h1 : Vb l / 2 ^ (16 * q + r) % 2 = (l.getD q 0 + 65536 * l.getD (q + 1) 0) / 2 ^ r % 2 := by omega
  rw [h1]
  obtain ⟨t, ht⟩ : ∃ t, 65536 = 2 ^ r * (2 * t) := ⟨2 ^ (15 - r), by rw [show 2 * 2 ^ (15 - r) = 2 ^ (16 - r) by rw [Nat.mul_comm, ← Nat.pow_succ]; congr 1; omega, ← Nat.pow_add, show r + (16 - r) = 16 by omega]⟩
  have e : l.getD q 0 + 65536 * l.getD (q + 1) 0 = l.getD q 0 + 2 ^ r * (2 * t * l.getD (q + 1) 0) := by
    rw [← Nat.mul_assoc (2 ^ r), ← ht]
  rw [e, Nat.add_mul_div_left _ _ (Nat.two_pow_pos r), Nat.mul_assoc, Nat.add_mul_mod_self_left]
theorem and1i {a : Nat} (h : a < 4294967296) : bits BinOp.and .i64 (a : Int) 1 = ((a % 2 : Nat) : Int) := by
  have h1 : (BitVec.ofInt 64 (a : Int)).toNat = a := by
    rw [BitVec.ofInt_natCast, BitVec.toNat_ofNat]; exact Nat.mod_eq_of_lt (by omega)
  have h2 : (BitVec.ofInt 64 (1 : Int)).toNat = 1 := by decide
  show IntKind.i64.wrap ((BitVec.ofInt 64 (a : Int) &&& BitVec.ofInt 64 (1 : Int)).toNat : Int) = _
  rw [BitVec.toNat_and, h1, h2, show (1 : Nat) = 2 ^ 1 - 1 from rfl, Nat.and_two_pow_sub_one_eq_mod]
  exact IntWalk.i64_in _ (by omega)
theorem int_shr (a r : Nat) : (a : Int) / 2 ^ r = ((a / 2 ^ r : Nat) : Int) := by
  rw [show ((2 : Int) ^ r) = ((2 ^ r : Nat) : Int) from (Int.natCast_pow 2 r).symm]; rfl
set_option maxRecDepth 100000 in
set_option maxHeartbeats 1000000 in
theorem spec_Has (x : Value) (X n i : Nat) (w : World) (hx : Sn w x X) (hX : X < 65536 ^ n) (hn : n ≤ 10000) (hi : i ≤ 200000) :
    Calls Tryz.prog 65 #[x, .int .i64 i] w fun e w' => e = .returned (.bool (decide (X / 2 ^ i % 2 = 1))) ∧ Chg No w w' := by
  obtain ⟨la, A, ca, rfl, hca, hra, rfl, hda, hta⟩ := hx.view
  have hla := Sn_len hta hX
  clear hX hx
  obtain ⟨na, ena⟩ : ∃ na, na = la.length := ⟨_, rfl⟩
  rw [← ena] at hla hca ⊢
  obtain ⟨q, hq⟩ : ∃ q, q = i / 16 := ⟨_, rfl⟩
  obtain ⟨r, hr⟩ : ∃ r, r = i % 16 := ⟨_, rfl⟩
  have e1 : (i : Int) / 16 = (q : Int) := by omega
  have e2 : (i : Int) % 16 = (r : Int) := by omega
  have hr16 : r < 16 := by omega
  have HF := Vb_bit1 hda (q := q) hr16
  rw [show 16 * q + r = i by omega] at HF
  rcases Nat.lt_or_ge q na with hlt | hge
  · obtain ⟨ad, rfl, c1⟩ := hra q (by omega)
    obtain ⟨t, ht⟩ : ∃ t, t = la.getD q 0 := ⟨_, rfl⟩
    have htl : t < 65536 := by rw [ht]; exact dig_lt hda q
    rw [← ht] at c1 HF
    obtain ⟨u, hu⟩ : ∃ u, u = t / 2 ^ r := ⟨_, rfl⟩
    have e3 : (t : Int) / 2 ^ r = (u : Int) := by rw [int_shr, hu]
    have hul : u < 65536 := by rw [hu]; exact Nat.lt_of_le_of_lt (Nat.div_le_self _ _) htl
    obtain ⟨v, hv⟩ : ∃ v, v = u % 2 := ⟨_, rfl⟩
    have e4 : bits BinOp.and .i64 (u : Int) 1 = (v : Int) := by rw [and1i (by omega), hv]
    rw [← hu, ← hv] at HF
    have i1 : (q : Int) < na := by omega
    have hfin : decide (Vb la / 2 ^ i % 2 = 1) = ((v : Int) == 1) := by
      rw [HF]
      by_cases h : v = 1
      · subst h; rfl
      · rw [decide_eq_false h]; exact (beq_eq_false_iff_ne.2 (by omega)).symm
    rw [hfin]
    clear hfin HF hu hv hq hr ht ena hra hda hta
    go_enter Tryz.func65, Tryz.ntmps65
    go_wp2_with fail
    go_ret
    exact ⟨rfl, Chg.refl _ _⟩
  · have i1 : ¬ (q : Int) < na := by omega
    have t1 : decide (q < na) = false := decide_eq_false (by omega)
    rw [gd_ge (by omega)] at HF
    have hfin : decide (Vb la / 2 ^ i % 2 = 1) = false := by rw [HF]; simp
    rw [hfin]
    clear hfin HF hq hr ena hra hda hta hge
    go_enter Tryz.func65, Tryz.ntmps65
    go_wp2_with fail
    go_ret
    exact ⟨rfl, Chg.refl _ _⟩
/-- The state of Shr: the digits told so far. -/
def ShrInv (Y : Nat) (l : List Nat) : Prop := Vb l = Y % 65536 ^ l.length ∧ ∀ d ∈ l, d < 65536
theorem ShrInv.step {Y d : Nat} {l : List Nat} (h : ShrInv Y l) (hd : d = Y / 65536 ^ l.length % 65536) : ShrInv Y (l ++ [d]) := by
  refine ⟨?_, fun e he => ?_⟩
  · rw [Vb_snoc, h.1, List.length_append, List.length_singleton, Nat.mod_pow_succ, hd, Nat.mul_comm]
  · rcases List.mem_append.1 he with h' | h'
    · exact h.2 e h'
    · simp at h'; rw [h', hd]; exact Nat.mod_lt _ (by decide)
set_option maxRecDepth 100000 in
set_option maxHeartbeats 4000000 in
theorem spec_Shr (x : Value) (X n s : Nat) (w : World) (hx : Sn w x X) (hX : X < 65536 ^ n) (hn : n ≤ 10000) (hs : s ≤ 100000) :
    Calls Tryz.prog 66 #[x, .int .i64 s] w (SnOut (X / 2 ^ s) w) := by
  obtain ⟨ci, hi1, hi2, hi3, hi4⟩ := info_of info3
  obtain ⟨la, A, ca, rfl, hca, hra, rfl, hda, hta⟩ := hx.view
  have hla := Sn_len hta hX
  clear hX hx
  obtain ⟨na, ena⟩ : ∃ na, na = la.length := ⟨_, rfl⟩
  rw [← ena] at hla hca ⊢
  obtain ⟨q, hq⟩ : ∃ q, q = s / 16 := ⟨_, rfl⟩
  obtain ⟨r, hr⟩ : ∃ r, r = s % 16 := ⟨_, rfl⟩
  have e1 : (s : Int) / 16 = (q : Int) := by omega
  have e2 : (s : Int) % 16 = (r : Int) := by omega
  have hr16 : r < 16 := by omega
  have hq1 : q ≤ 10000 := by omega
  have HI : Hid (s = 16 * q + r) := Lib.hid (by omega)
  have HE := Lib.hid ena
  have HRA := Lib.hid hra
  have G0 := Lib.hid (Gr.start (Chg.refl No w) 3)
  clear hq hr ena hra hta
  go_enter Tryz.func66, Tryz.ntmps66
  go_wp2_with fail
  go_loopw [5, 6] (fun v iv wr => ∃ (j : Nat) (l : List Nat), iv = .int .i64 ((q + j : Nat) : Int) ∧ q + j ≤ q + na ∧ Hid (Gr w wr v (ints l)) ∧ Hid (ShrInv (Vb la / 2 ^ s) l) ∧ Hid (l.length = j) ∧ Hid (j = 0 ∨ q + j ≤ na)) (fun _ iv _ => (q + na + 1) - (intOf iv).toNat)
  case atStart => exact ⟨0, [], by simp, by omega, G0, Lib.hid ⟨by simp [Vb, Nat.mod_one], by simp⟩, Lib.hid rfl, Lib.hid (.inl rfl)⟩
  case round =>
    obtain ⟨j, l, rfl, hj, hG, hV, hL, hJ⟩ := hrel
    obtain ⟨i, hi⟩ : ∃ i, i = q + j := ⟨_, rfl⟩
    rw [← hi] at hj
    rw [show ((q + j : Nat) : Int) = (i : Int) by omega]
    by_cases hin : i < na
    · obtain ⟨ad, rfl, c1⟩ := (HRA.out.chg hG.out.1) i (by have := HE.out; omega)
      obtain ⟨u, hu⟩ : ∃ u, u = la.getD i 0 := ⟨_, rfl⟩
      have hul : u < 65536 := by rw [hu]; exact dig_lt hda i
      rw [← hu] at c1
      have hbit := Vb_bits hda (q := i) hr16
      rw [← hu] at hbit
      have hY : Vb la / 2 ^ s / 65536 ^ l.length = Vb la / 2 ^ (16 * i + r) := by
        rw [HI.out, hL.out, Nat.div_div_eq_div_mul, show (65536 : Nat) = 2 ^ 16 by decide, ← Nat.pow_mul, ← Nat.pow_add]; congr 2; omega
      have i1 : (i : Int) < na := by omega
      have HI2 := Lib.hid hi
      by_cases hin2 : i + 1 < na
      · obtain ⟨ad2, had2, c2⟩ := (HRA.out.chg hG.out.1) (i + 1) (by have := HE.out; omega)
        obtain rfl : ad = ad2 := by simpa using had2
        obtain ⟨u2, hu2⟩ : ∃ u2, u2 = la.getD (i + 1) 0 := ⟨_, rfl⟩
        have hul2 : u2 < 65536 := by rw [hu2]; exact dig_lt hda _
        rw [← hu2] at c2 hbit
        have c2 : wr.cell? ⟨ad.block, ad.off + (i + 1), none⟩ = some (.int .i64 (u2 : Nat)) := by rw [← c2]; simp [Addr.add]
        have i2 : (i : Int) + 1 < na := by omega
        obtain ⟨m2, hm2⟩ : ∃ m2, m2 = 65536 * u2 := ⟨_, rfl⟩
        have e3 : (65536 : Int) * (u2 : Int) = (m2 : Int) := by omega
        obtain ⟨x2, hx2⟩ : ∃ x2, x2 = u + m2 := ⟨_, rfl⟩
        have e4 : (u : Int) + (m2 : Int) = (x2 : Int) := by omega
        have hm2b : m2 < 4294967296 := by omega
        have hx2b : x2 < 8589934592 := by omega
        obtain ⟨y, hy⟩ : ∃ y, y = x2 / 2 ^ r := ⟨_, rfl⟩
        have e5 : (x2 : Int) / 2 ^ r = (y : Int) := by rw [int_shr, hy]
        obtain ⟨d, hd⟩ : ∃ d, d = y % 65536 := ⟨_, rfl⟩
        have e6 : (y : Int) % 65536 = (d : Int) := by omega
        have HD := Lib.hid (hV.out.step (d := d) (by rw [hY, hbit, hd, hy, hx2, hm2]))
        clear hu hu2 hm2 hx2 hy hd hbit hY hi had2 hV
        go_wp2_with (refine wpList_append_gr (w0 := w) rfl (.tmp 34) (.tmp 40) 29 3 rfl ci _ Tryz.underlying29 hi1 hi2 rfl (noWB_int 0) hi3 (by rw [hi4]; omega) _ (ints l) rfl hG.out (.int .i64 d) rfl 3 rfl (by have := hL.out; have := HI2.out; rw [ints_length]; omega) ?_; intro r2 w2 happ; have HA := Lib.hid happ; clear happ)
        go_roundw
        case rel => exact ⟨j + 1, l ++ [d], by have := HI2.out; go_num, by have := HI2.out; omega, Lib.hid (by rw [← ints_snoc]; exact HA.out), HD, Lib.hid (by have := hL.out; simp; omega), Lib.hid (.inr (by have := HI2.out; omega))⟩
        case measure => simp [intOf]; omega
      · rw [gd_ge (by have := HE.out; omega)] at hbit
        have i2 : ¬ (i : Int) + 1 < na := by omega
        obtain ⟨y, hy⟩ : ∃ y, y = u / 2 ^ r := ⟨_, rfl⟩
        have e5 : (u : Int) / 2 ^ r = (y : Int) := by rw [int_shr, hy]
        obtain ⟨d, hd⟩ : ∃ d, d = y % 65536 := ⟨_, rfl⟩
        have e6 : (y : Int) % 65536 = (d : Int) := by omega
        have HD := Lib.hid (hV.out.step (d := d) (by rw [hY, hbit, hd, hy]; simp))
        clear hu hy hd hbit hY hi hV
        go_wp2_with (refine wpList_append_gr (w0 := w) rfl (.tmp 34) (.tmp 40) 29 3 rfl ci _ Tryz.underlying29 hi1 hi2 rfl (noWB_int 0) hi3 (by rw [hi4]; omega) _ (ints l) rfl hG.out (.int .i64 d) rfl 3 rfl (by have := hL.out; have := HI2.out; rw [ints_length]; omega) ?_; intro r2 w2 happ; have HA := Lib.hid happ; clear happ)
        go_roundw
        case rel => exact ⟨j + 1, l ++ [d], by have := HI2.out; go_num, by have := HI2.out; omega, Lib.hid (by rw [← ints_snoc]; exact HA.out), HD, Lib.hid (by have := hL.out; simp; omega), Lib.hid (.inr (by have := HI2.out; omega))⟩
        case measure => simp [intOf]; omega
    · have i1 : ¬ (i : Int) < na := by omega
      have hval : Vb l = Vb la / 2 ^ s := by
        rw [hV.out.1]
        apply Nat.mod_eq_of_lt
        have h1 := Vb_lt hda
        rw [← HE.out] at h1
        rw [Nat.div_lt_iff_lt_mul (Nat.two_pow_pos s)]
        have h2 : 65536 ^ na ≤ 65536 ^ l.length * 2 ^ s := by
          rw [show (65536 : Nat) = 2 ^ 16 by decide, ← Nat.pow_mul, ← Nat.pow_mul, ← Nat.pow_add]
          exact Nat.pow_le_pow_right (by decide) (by have := HI.out; have := hL.out; omega)
        omega
      have HVA := Lib.hid hval
      obtain ⟨b, c, rfl, -⟩ := hG.out.2
      have HT := Lib.hid (spec_trim _ l wr hG.out.sl hV.out.2 (by have := hL.out; omega))
      clear hi hval
      go_wp2_with fail
      refine HT.out.mono ?_
      rintro e w3 ⟨r2, rfl, hr2, rfl⟩
      have HR := Lib.hid hr2
      clear hr2
      go_wp2_with fail
      go_ret
      exact ⟨_, rfl, by rw [← HVA.out]; exact HR.out, hG.out.1⟩
/-- How often 2 divides. -/
theorem odd_step {X n : Nat} (h : 2 ^ n ∣ X) (hb : X / 2 ^ n % 2 ≠ 1) : 2 ^ (n + 1) ∣ X := by
  obtain ⟨k, rfl⟩ := h
  rw [Nat.mul_div_cancel_left _ (Nat.two_pow_pos n)] at hb
  exact ⟨k / 2, by rw [Nat.pow_succ, Nat.mul_assoc]; congr 1; omega⟩
/-- A number without its divisors 2, and how many these are. -/
def OddOut (X : Nat) (w : World) (e : Ending) (w' : World) : Prop := ∃ r m k, e = .returned (.tuple #[r, .int .i64 (k : Nat)]) ∧ Sn w' r m ∧ X = m * 2 ^ k ∧ m % 2 = 1 ∧ k < blen X ∧ Chg No w w'
set_option maxRecDepth 100000 in
set_option maxHeartbeats 2000000 in
theorem spec_Odd (x : Value) (X n : Nat) (w : World) (hx : Sn w x X) (hX : X < 65536 ^ n) (hn : n ≤ 1000) (hX0 : X ≠ 0) :
    Calls Tryz.prog 27 #[x] w (OddOut X w) := by
  obtain ⟨xA, xn, xc, rfl⟩ : ∃ A n c, x = .slice A n c := by obtain ⟨l, A, c, e, _⟩ := hx.view; exact ⟨_, _, _, e⟩
  have hbl := blen_le (P := 16 * n) hX0 (by rw [Nat.pow_mul]; exact hX)
  obtain ⟨bX, hbX⟩ : ∃ bX, bX = blen X := ⟨_, rfl⟩
  rw [← hbX] at hbl
  have HX := Lib.hid (And.intro hx (And.intro hX hX0))
  have HB := Lib.hid hbX
  have HK : Hid (∀ k, 2 ^ k ∣ X → k < bX) := Lib.hid fun k hk => by
    have h1 := Nat.le_of_dvd (Nat.pos_of_ne_zero hX0) hk
    have h2 := (blen_spec hX0).2.2
    rw [← hbX] at h2
    exact (Nat.pow_lt_pow_iff_right (by decide)).1 (Nat.lt_of_le_of_lt h1 h2)
  clear hx hX hX0 hbX
  go_enter Tryz.func27, Tryz.ntmps27
  go_wp2_with fail
  go_loopw [4] (fun kv wr => ∃ k : Nat, kv = .int .i64 k ∧ k < bX ∧ Hid (2 ^ k ∣ X) ∧ Hid (Chg No w wr)) (fun kv _ => bX - (intOf kv).toNat)
  case atStart => exact ⟨0, rfl, HK.out 0 (by simp), Lib.hid (by simp), Lib.hid (Chg.refl _ _)⟩
  case round =>
    obtain ⟨k, rfl, hk, hD, hC⟩ := hrel
    have H1 := Lib.hid (spec_Has _ X n k wr (HX.out.1.chg hC.out) HX.out.2.1 (by omega) (by omega))
    by_cases hbit : X / 2 ^ k % 2 = 1
    · have H1 := Lib.hid (by have h := H1.out; rwa [decide_eq_true hbit] at h)
      have HBT := Lib.hid hbit
      clear hbit
      go_wp2_with fail
      refine H1.out.mono ?_
      rintro e w1 ⟨rfl, hc1⟩
      have HC1 := Lib.hid (hC.out.then hc1 (fun _ _ _ f => f))
      have H2 := Lib.hid (spec_Shr _ X n k w1 (HX.out.1.chg HC1.out) HX.out.2.1 (by omega) (by omega))
      clear hc1
      go_wp2_with fail
      refine H2.out.mono ?_
      rintro e w2 ⟨r, rfl, hr, hc2⟩
      have HR := Lib.hid hr
      have HC2 := Lib.hid (HC1.out.then hc2 (fun _ _ _ f => f))
      clear hr hc2
      go_wp2_with fail
      go_ret2
      exact ⟨_, _, k, rfl, HR.out, (Nat.div_mul_cancel hD.out).symm, HBT.out, by rw [← HB.out]; exact hk, HC2.out⟩
    · have H1 := Lib.hid (by have h := H1.out; rwa [decide_eq_false hbit] at h)
      have HN := Lib.hid (odd_step hD.out hbit)
      have hk2 := HK.out _ HN.out
      clear hbit
      go_wp2_with fail
      refine H1.out.mono ?_
      rintro e w1 ⟨rfl, hc1⟩
      have HC1 := Lib.hid (hC.out.then hc1 (fun _ _ _ f => f))
      clear hc1
      go_wp2_with fail
      go_roundw
      case rel => exact ⟨k + 1, by go_num, hk2, HN, HC1⟩
      case measure => simp [intOf]; omega
end Go.Proofs.YtacfhndledcmgaaGreatDoor
