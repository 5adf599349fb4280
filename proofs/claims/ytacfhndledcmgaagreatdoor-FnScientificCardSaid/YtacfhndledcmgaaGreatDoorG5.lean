/- Lemmas for the law FnScientific: the plain law of the scientific text, and Text with format e. Conditions: those in each theorem; none besides. -/
import Derived.Test.YtacfhndledcmgaaGreatDoorG4
import Derived.Test.YtacfhndledcmgaaGreatDoorG3
import Derived.Test.YtacfhndledcmgaaGreatDoorF8
set_option linter.unusedVariables false
set_option linter.unusedSimpArgs false
namespace Go.Proofs.YtacfhndledcmgaaGreatDoor
open Go.RowKit
theorem near_scale {A B N Q T : Nat} (hQ : 0 < Q) (h : A * Q = N * B) (hn : Near N Q T) : Near A B T := by
  obtain ⟨b1, b2⟩ := hn
  refine ⟨Nat.le_of_mul_le_mul_right ?_ hQ, Nat.le_of_mul_le_mul_right ?_ hQ⟩
  · have a1 : 2 * A * Q = 2 * N * B := by rw [Nat.mul_assoc, h]; grind
    have a2 : (2 * T + 1) * B * Q = (2 * T + 1) * Q * B := by grind
    rw [a1, a2]; exact Nat.mul_le_mul_right _ b1
  · have a1 : (2 * A + B) * Q = (2 * N + Q) * B := by rw [Nat.add_mul, Nat.mul_assoc, h]; grind
    have a2 : 2 * T * B * Q = 2 * T * Q * B := by grind
    rw [a1, a2]; exact Nat.mul_le_mul_right _ b2
theorem near_exact {A B T : Nat} (h : A = T * B) : Near A B T := by
  subst h
  have a1 : (2 * T + 1) * B = 2 * (T * B) + B := by grind
  have a2 : 2 * T * B = 2 * (T * B) := by grind
  unfold Near
  rw [a1, a2]; omega
theorem tens_lt {V D : Nat} {k k' : Int} (hD : 0 < D) (h : TensIs V D k) (h' : TensIs V D k') : k' ≤ k := by
  obtain ⟨_, a2⟩ := h
  obtain ⟨b1, _⟩ := h'
  obtain ⟨a, ha⟩ : ∃ a, a = k.toNat := ⟨_, rfl⟩
  obtain ⟨b, hb⟩ : ∃ b, b = (-k).toNat := ⟨_, rfl⟩
  obtain ⟨c, hc⟩ : ∃ c, c = k'.toNat := ⟨_, rfl⟩
  obtain ⟨d, hd⟩ : ∃ d, d = (-k').toNat := ⟨_, rfl⟩
  rw [← ha, ← hb] at a2
  rw [← hc, ← hd] at b1
  have e1 : D * 10 ^ (c + b) ≤ V * 10 ^ (d + b) := by
    rw [Nat.pow_add, Nat.pow_add, ← Nat.mul_assoc, ← Nat.mul_assoc]; exact Nat.mul_le_mul_right _ b1
  have e2 : V * 10 ^ (d + b) < D * 10 ^ (a + 1 + d) := by
    have := Nat.mul_lt_mul_of_pos_right a2 (Nat.pow_pos (n := d) (show 0 < 10 by decide))
    have f1 : V * 10 ^ (d + b) = V * 10 ^ b * 10 ^ d := by rw [Nat.pow_add]; grind
    have f2 : D * 10 ^ (a + 1 + d) = D * 10 ^ a * 10 * 10 ^ d := by rw [Nat.pow_add, Nat.pow_succ]; grind
    rw [f1, f2]; exact this
  have e3 : D * 10 ^ (c + b) < D * 10 ^ (a + 1 + d) := Nat.lt_of_le_of_lt e1 e2
  have e4 := Nat.lt_of_mul_lt_mul_left e3
  have e5 := (Nat.pow_lt_pow_iff_right (show 1 < 10 by decide)).1 e4
  omega
theorem tens_unique {V D : Nat} {k k' : Int} (hD : 0 < D) (h : TensIs V D k) (h' : TensIs V D k') : k = k' := by
  have := tens_lt hD h h'
  have := tens_lt hD h' h
  omega
/-- The exponent of a value by its figures. -/
theorem tens_of {V D N L : Nat} {x : Int} (hV : V * 10 ^ ((L : Int) - x).toNat = N * 10 ^ (x - (L : Int)).toNat * D) (h0 : 0 < L) (h1 : 10 ^ (L - 1) ≤ N) (h2 : N < 10 ^ L) (hD : 0 < D) : TensIs V D (x - 1) := by
  obtain ⟨u, hu⟩ : ∃ u, u = ((L : Int) - x).toNat := ⟨_, rfl⟩
  obtain ⟨v, hv⟩ : ∃ v, v = (x - (L : Int)).toNat := ⟨_, rfl⟩
  obtain ⟨a, ha⟩ : ∃ a, a = (x - 1).toNat := ⟨_, rfl⟩
  obtain ⟨b, hb⟩ : ∃ b, b = (-(x - 1)).toNat := ⟨_, rfl⟩
  unfold TensIs
  rw [← hu, ← hv] at hV
  rw [← ha, ← hb]
  have hs : a + u = (L - 1) + (v + b) := by omega
  have hU : 0 < 10 ^ u := Nat.pow_pos (by decide)
  have e1 : V * 10 ^ b * 10 ^ u = N * 10 ^ (v + b) * D := by
    have : V * 10 ^ b * 10 ^ u = V * 10 ^ u * 10 ^ b := by grind
    rw [this, hV, Nat.pow_add]; grind
  constructor
  · apply Nat.le_of_mul_le_mul_right _ hU
    have f1 : D * 10 ^ a * 10 ^ u = 10 ^ (L - 1) * 10 ^ (v + b) * D := by
      rw [Nat.mul_assoc, ← Nat.pow_add, hs, Nat.pow_add]; grind
    rw [e1, f1]
    exact Nat.mul_le_mul_right _ (Nat.mul_le_mul_right _ h1)
  · apply Nat.lt_of_mul_lt_mul_right (a := 10 ^ u)
    have f1 : D * 10 ^ a * 10 * 10 ^ u = 10 ^ L * 10 ^ (v + b) * D := by
      have g1 : D * 10 ^ a * 10 * 10 ^ u = D * (10 ^ a * 10 ^ u) * 10 := by grind
      have g2 : 10 ^ L = 10 ^ (L - 1) * 10 := by rw [← Nat.pow_succ]; congr 1; omega
      rw [g1, ← Nat.pow_add, hs, Nat.pow_add, g2]; grind
    rw [e1, f1]
    exact Nat.mul_lt_mul_of_pos_right (Nat.mul_lt_mul_of_pos_right h2 (Nat.pow_pos (by decide))) hD
theorem mantTx {ds : List Nat} {P : Nat} (hd : ∀ d ∈ ds, d < 10) (h0 : 0 < ds.length) (hh : ds.getD 0 0 ≠ 0) (hl : ds.length ≤ P + 1) : ∃ D, FigLen (Nd ds * 10 ^ (P + 1 - ds.length)) D P ∧ [atD ds 0] ++ fracTx ds 1 P = ptext (Nd ds * 10 ^ (P + 1 - ds.length)) D P := by
  have hT : Nd ds * 10 ^ (P + 1 - ds.length) = Dp ds ((1 : Int) + P).toNat := by
    rw [Dp_ge _ (by omega)]; congr 2; omega
  obtain ⟨D, g1, g2⟩ := fix_end (x := 1) (k := P) hd hT (fun _ => ⟨h0, hh⟩)
  refine ⟨D, g1, ?_⟩
  have e : intTx ds 1 = [atD ds 0] := by unfold intTx; rw [if_pos (by decide)]; rfl
  rw [← e]; exact g2
theorem sci_text {X P : Nat} {E x x' : Int} {ds ds' : List Nat} (hp : DecPure X E ds x) (hr : RoundAny ds x (1 + P) ds' x') (hd' : ∀ d ∈ ds', d < 10) (h0' : 0 < ds'.length) (hh' : ds'.getD 0 0 ≠ 0) :
    ∃ (k k' : Int) (T T' D : Nat), TensIs (X * 2 ^ E.toNat) (2 ^ (-E).toNat) k ∧ Near (X * 2 ^ E.toNat * 10 ^ ((P : Int) - k).toNat) (2 ^ (-E).toNat * 10 ^ (k - (P : Int)).toNat) T ∧ FigLen T' D P ∧ eTx ds' x' P = ptext T' D P ++ [101] ++ expTx k' ∧ ((T = 10 ^ (P + 1) ∧ T' = 10 ^ P ∧ k' = k + 1) ∨ (T ≠ 10 ^ (P + 1) ∧ T' = T ∧ k' = k)) := by
  have hv := hp.val
  obtain ⟨_, h0, hh, -, hd, -, -⟩ := hp
  have hN2 := Nd_lt ds hd
  have hN1 := Nd_ge h0 hh
  have hD0 : 0 < 2 ^ (-E).toNat := Nat.two_pow_pos _
  generalize X * 2 ^ E.toNat = V at *
  generalize 2 ^ (-E).toNat = B at *
  have htens := tens_of hv h0 hN1 hN2 hD0
  obtain ⟨u, hu⟩ : ∃ u, u = ((ds.length : Int) - x).toNat := ⟨_, rfl⟩
  obtain ⟨v, hv'⟩ : ∃ v, v = (x - (ds.length : Int)).toNat := ⟨_, rfl⟩
  obtain ⟨c, hc⟩ : ∃ c, c = ((P : Int) - (x - 1)).toNat := ⟨_, rfl⟩
  obtain ⟨d, hd2⟩ : ∃ d, d = (x - 1 - (P : Int)).toNat := ⟨_, rfl⟩
  rw [← hu, ← hv'] at hv
  have hU : 0 < 10 ^ u := Nat.pow_pos (by decide)
  have lt_of : ∀ l : List Nat, (∀ e ∈ l, e < 10) → l.length ≤ P + 1 → Nd l * 10 ^ (P + 1 - l.length) < 10 ^ (P + 1) := fun l hl1 hl2 => by
    have h1 := Nd_lt l hl1
    have h2 : 10 ^ (P + 1) = 10 ^ l.length * 10 ^ (P + 1 - l.length) := by rw [← Nat.pow_add]; congr 1; omega
    rw [h2]; exact Nat.mul_lt_mul_of_pos_right h1 (Nat.pow_pos (by decide))
  rcases hr with ⟨hz, rfl, rfl⟩ | ⟨n, hn, hnl, T, hT, hcase⟩
  · have hl : ds'.length ≤ P + 1 := by omega
    obtain ⟨D, m1, m2⟩ := mantTx hd' h0' hh' hl
    have hex : V * 10 ^ c = Nd ds' * 10 ^ (P + 1 - ds'.length) * (B * 10 ^ d) := by
      apply Nat.eq_of_mul_eq_mul_right hU
      have a1 : V * 10 ^ c * 10 ^ u = V * 10 ^ u * 10 ^ c := by grind
      have hs : v + c = P + 1 - ds'.length + (d + u) := by omega
      have a2 : Nd ds' * 10 ^ v * B * 10 ^ c = Nd ds' * 10 ^ (v + c) * B := by rw [Nat.pow_add]; grind
      rw [a1, hv, a2, hs, Nat.pow_add, Nat.pow_add]; grind
    refine ⟨x' - 1, x' - 1, _, _, D, htens, ?_, m1, by unfold eTx; rw [m2], .inr ⟨Nat.ne_of_lt (lt_of ds' hd' hl), rfl, rfl⟩⟩
    rw [← hc, ← hd2]; exact near_exact hex
  · obtain rfl : n = P + 1 := by omega
    obtain ⟨q, hq⟩ : ∃ q, q = ds.length - (P + 1) := ⟨_, rfl⟩
    rw [← hq] at hT
    have hQ : 0 < 10 ^ q := Nat.pow_pos (by decide)
    have hsc : V * 10 ^ c * 10 ^ q = Nd ds * (B * 10 ^ d) := by
      apply Nat.eq_of_mul_eq_mul_right hU
      have a1 : V * 10 ^ c * 10 ^ q * 10 ^ u = V * 10 ^ u * (10 ^ c * 10 ^ q) := by grind
      have hs : v + (c + q) = d + u := by clear hcase hT a1; omega
      have a2 : Nd ds * 10 ^ v * B * (10 ^ c * 10 ^ q) = Nd ds * 10 ^ (v + (c + q)) * B := by rw [Nat.pow_add, Nat.pow_add]; grind
      rw [a1, hv, a2, hs, Nat.pow_add]; grind
    have hnear := near_scale hQ hsc hT
    have hTle : T ≤ 10 ^ (P + 1) := by
      have b2 := hT.2
      have e1 : 10 ^ ds.length = 10 ^ (P + 1) * 10 ^ q := by rw [← Nat.pow_add]; congr 1; clear hcase hT b2; omega
      clear hcase
      rw [e1] at hN2
      rcases Nat.lt_or_ge (10 ^ (P + 1)) T with hgt | hle
      · exfalso
        have : (10 ^ (P + 1) + 1) * 10 ^ q ≤ T * 10 ^ q := Nat.mul_le_mul_right _ hgt
        rw [Nat.add_mul, Nat.one_mul] at this
        rw [Nat.mul_assoc] at b2
        omega
      · exact hle
    rcases hcase with ⟨rfl, rfl, rfl⟩ | ⟨⟨e, he1, he2⟩, c1, c2, c3, c4, c5, c6, c7⟩
    · simp at h0'
    · have hl : ds'.length ≤ P + 1 := Nat.le_trans c7 (Nat.max_le.2 ⟨Nat.le_refl _, Nat.succ_le_succ (Nat.zero_le _)⟩)
      obtain ⟨D, m1, m2⟩ := mantTx hd' h0' hh' hl
      clear c7 c3 c4
      have hge : 10 ^ P ≤ Nd ds' * 10 ^ (P + 1 - ds'.length) := by
        have h1 := Nd_ge h0' hh'
        have h2 : 10 ^ P = 10 ^ (ds'.length - 1) * 10 ^ (P + 1 - ds'.length) := by rw [← Nat.pow_add]; congr 1; omega
        rw [h2]; exact Nat.mul_le_mul_right _ h1
      have hltT := lt_of ds' hd' hl
      rcases Int.lt_or_le x x' with hx | hx
      · obtain rfl : x' = x + 1 := by omega
        have hT10 : T = Nd ds' * 10 ^ (P + 1 - ds'.length) * 10 := by
          rw [he1, Nat.mul_assoc, ← Nat.pow_succ]; congr 2; omega
        have hp10 : 10 ^ (P + 1) = 10 ^ P * 10 := Nat.pow_succ _ _
        have hT' : Nd ds' * 10 ^ (P + 1 - ds'.length) = 10 ^ P := by omega
        refine ⟨x - 1, x, T, _, D, htens, by rw [← hc, ← hd2]; exact hnear, m1, by unfold eTx; rw [m2, show x + 1 - 1 = x by omega], .inl ⟨by omega, hT', by omega⟩⟩
      · obtain rfl : x' = x := by omega
        have hT1 : T = Nd ds' * 10 ^ (P + 1 - ds'.length) := by rw [he1]; congr 2; omega
        refine ⟨x' - 1, x' - 1, T, _, D, htens, by rw [← hc, ← hd2]; exact hnear, m1, by unfold eTx; rw [m2], .inr ⟨by omega, hT1.symm, rfl⟩⟩
theorem dec_bound {X : Nat} {E x : Int} {ds : List Nat} (h : DecPure X E ds x) (hX : X < 2 ^ 200) (h1 : -300 ≤ E) (h2 : E ≤ 300) : -800 ≤ x ∧ x ≤ 800 := by
  have hv := h.val
  obtain ⟨_, h0, hh, -, hd, -, -⟩ := h
  have hD0 : 0 < 2 ^ (-E).toNat := Nat.two_pow_pos _
  obtain ⟨t1, t2⟩ := tens_of hv h0 (Nd_ge h0 hh) (Nd_lt ds hd) hD0
  have hN0 : 0 < Nd ds := Nat.lt_of_lt_of_le (Nat.pow_pos (by decide)) (Nd_ge h0 hh)
  have hV0 : 0 < X * 2 ^ E.toNat := by
    rcases Nat.eq_zero_or_pos (X * 2 ^ E.toNat) with h | h
    · rw [h, Nat.zero_mul] at hv
      have := Nat.mul_pos (Nat.mul_pos hN0 (Nat.pow_pos (n := (x - (ds.length : Int)).toNat) (show 0 < 10 by decide))) hD0
      omega
    · exact h
  obtain ⟨p, hp⟩ : ∃ p, p = 200 + E.toNat := ⟨_, rfl⟩
  have hV : X * 2 ^ E.toNat < 10 ^ p := by
    have a1 : X * 2 ^ E.toNat < 2 ^ 200 * 2 ^ E.toNat := Nat.mul_lt_mul_of_pos_right hX (Nat.two_pow_pos _)
    rw [← Nat.pow_add, ← hp] at a1
    exact Nat.lt_of_lt_of_le a1 (Nat.pow_le_pow_left (by decide) _)
  have hB : 2 ^ (-E).toNat ≤ 10 ^ (-E).toNat := Nat.pow_le_pow_left (by decide) _
  generalize X * 2 ^ E.toNat = V at *
  generalize 2 ^ (-E).toNat = B at *
  obtain ⟨a, ha⟩ : ∃ a, a = (x - 1).toNat := ⟨_, rfl⟩
  obtain ⟨b, hb⟩ : ∃ b, b = (-(x - 1)).toNat := ⟨_, rfl⟩
  obtain ⟨r, hr⟩ : ∃ r, r = (-E).toNat := ⟨_, rfl⟩
  rw [← ha, ← hb] at t1 t2
  rw [← hr] at hB
  have hb1 : b < r + 1 + a := by
    have e1 : 1 * 10 ^ b ≤ V * 10 ^ b := Nat.mul_le_mul_right _ hV0
    have e2 : B * 10 ^ a * 10 ≤ 10 ^ r * 10 ^ a * 10 := Nat.mul_le_mul_right _ (Nat.mul_le_mul_right _ hB)
    have e3 : 10 ^ b < 10 ^ (r + 1 + a) := by
      have : 10 ^ (r + 1 + a) = 10 ^ r * 10 ^ a * 10 := by rw [Nat.pow_add, Nat.pow_succ]; grind
      rw [this]; omega
    exact (Nat.pow_lt_pow_iff_right (by decide)).1 e3
  have ha1 : a < p + b := by
    have e1 : 1 * 10 ^ a ≤ B * 10 ^ a := Nat.mul_le_mul_right _ hD0
    have e2 : V * 10 ^ b < 10 ^ p * 10 ^ b := Nat.mul_lt_mul_of_pos_right hV (Nat.pow_pos (by decide))
    have e3 : 10 ^ a < 10 ^ (p + b) := by rw [Nat.pow_add]; omega
    exact (Nat.pow_lt_pow_iff_right (by decide)).1 e3
  clear hv hX hV hB t1 t2 hN0
  omega
theorem SciOut.shift {X t k : Nat} {E : Int} {l : List Nat} (h : SciOut (X * 2 ^ t) (E - t) k l) : SciOut X E k l := by
  obtain ⟨ds, x, ds', x', h1, h2⟩ := h
  exact ⟨ds, x, ds', x', h1.shift, h2⟩
theorem appendOk_e (k b base P M : Nat) (n : Bool) (X : Nat) (E : Int) (xb xo m xc : Nat) (hk : k ≤ 100000) (h0 : X ≠ 0) (hX : X < 2 ^ 200) (hE1 : -300 ≤ E) (hE2 : E ≤ 300) (hm0 : 0 < m) (hm1 : 64 * (m - 1) < blen X) (hm2 : blen X ≤ 64 * m) :
    AppendOk 101 k b base P M n X E xb xo m xc (fun l => ∃ l', SciOut X E k l' ∧ l = sgn n ++ l') := by
  intro buf pre w hb hx hpre hbb hg
  have hbl := blen_le h0 hX
  have hsz := upTo_size (m := m) (Q := 200) (E := E) h0 hX (by clear hX; omega) hm2 (by omega)
  have e1 : shOf X m E = E - ((64 * m - blen X : Nat) : Int) := by unfold shOf; omega
  refine (append_e buf pre base b P M n X E xb xo m xc k w hb hx hpre hk (by omega) (by omega) (by omega) hbb hg (small_words hsz (by omega)) (fun ds x hp => ?_) (fun A hA1 hA2 => itoaOk_small hA1 (Nat.lt_of_le_of_lt hA2 hsz))).mono ?_
  · rw [e1] at hp
    exact dec_bound hp.shift hX hE1 hE2
  rintro e w' ⟨r, h1, l, h2, h3⟩
  refine ⟨r, h1, sgn n ++ l, ⟨l, ?_, rfl⟩, by rw [← List.append_assoc]; exact h3⟩
  rw [e1] at h2
  exact h2.shift
/-- The texts that 'e' may tell. -/
def SciR (n : Bool) (X : Nat) (E : Int) (k : Nat) (l : List Nat) : Prop := ∃ l', SciOut X E k l' ∧ l = sgn n ++ l'
theorem SciR.ne {n : Bool} {X k : Nat} {E : Int} {l : List Nat} (h : SciR n X E k l) : 0 < l.length := by
  obtain ⟨l', ⟨ds, x, ds', x', _, _, _, _, _, rfl⟩, rfl⟩ := h
  unfold eTx; simp; omega
theorem SciR.mem {n : Bool} {X p : Nat} {E : Int} {l : List Nat} {ts : List ByteArray} {k : Int} (h : SciR n X E p l) (hk : TensIs (X * 2 ^ E.toNat) (2 ^ (-E).toNat) k)
    (ht : ∀ T, Near (X * 2 ^ E.toNat * 10 ^ ((p : Int) - k).toNat) (2 ^ (-E).toNat * 10 ^ (k - (p : Int)).toNat) T → ∃ t ∈ ts, SciTx n p T k t) : txt l ∈ ts := by
  obtain ⟨l', ⟨ds, x, ds', x', h1, h2, h3, h4, h5, rfl⟩, rfl⟩ := h
  obtain ⟨k2, k', T, T', D, g1, g2, g3, g4, g5⟩ := sci_text h1 h2 h3 h4 h5
  obtain rfl := tens_unique (Nat.two_pow_pos _) g1 hk
  obtain ⟨t, m1, m2⟩ := ht T g2
  rw [g4]
  unfold SciTx at m2
  rcases g5 with ⟨a1, a2, a3⟩ | ⟨a1, a2, a3⟩
  · rw [if_pos a1] at m2
    obtain ⟨D', b1, rfl⟩ := m2
    subst a2; subst a3
    rw [figLen_unique g3 b1]
    unfold figTx at m1
    simpa [List.append_assoc] using m1
  · rw [if_neg a1] at m2
    obtain ⟨D', b1, rfl⟩ := m2
    subst a2; subst a3
    rw [figLen_unique g3 b1]
    unfold figTx at m1
    simpa [List.append_assoc] using m1
/-- 'impl.Text' of format e, for what the law lets in. -/
theorem text_e (P M k : Nat) (n : Bool) (A : Option Addr) (c : Nat) (l : List Nat) (E : Int) (w : World) (hr : RdU w A l) (hm : ∀ x ∈ l, x < WB) (hg : Glob w) (hk : k ≤ 100) (ho : RealOk 200 300 P M E l) :
    Calls Tryz.prog 24 #[.agg #[.int .u64 P, .int .i64 M, .int .i64 1, .bool n, .slice A l.length c, .int .i64 E], .int .u8 101, .int .i64 k] w (TextOut (SciR n (Vl l) E k) w) := by
  obtain ⟨o1, o2, o3, o4, o5, o6, o7, o8, o9⟩ := ho
  have hX : Vl l < 2 ^ P := Nat.lt_of_lt_of_le (blen_spec o6).2.2 (Nat.pow_le_pow_right (by decide) o7)
  have hX2 : Vl l < 2 ^ 200 := Nat.lt_of_lt_of_le hX (Nat.pow_le_pow_right (by decide) o2)
  refine impl_Text 101 k P M n A c l E (SciR n (Vl l) E k) w (by omega) hm hr (by omega) (by omega) (by omega) hX o6 (by omega) (by omega) hg (by omega) (fun t ht => ht.ne) (fun base b xb xo m xc g0 g1 g2 => ?_)
  exact appendOk_e k b base P M n (Vl l) E xb xo m xc (by omega) o6 hX2 o8 o9 g0 g1 g2
end Go.Proofs.YtacfhndledcmgaaGreatDoor
