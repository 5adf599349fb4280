/- Lemmas for the law FnBackDecimal: the shortest text with an exponent. Conditions: those in each theorem; none besides. -/
import Derived.Test.YtacfhndledcmgaaGreatDoorK20
import Derived.Test.YtacfhndledcmgaaGreatDoorK17
import Derived.Test.YtacfhndledcmgaaGreatDoorK18
import Derived.Test.YtacfhndledcmgaaGreatDoorK12
import Derived.Deep.RegionHeld3
set_option linter.unusedVariables false
set_option linter.unusedSimpArgs false
namespace Go.Proofs.YtacfhndledcmgaaGreatDoor
open Go.RowKit
/-- Append with as many figures as the value wants tells one of the texts R. -/
def AppendOkS (c base b P M : Nat) (n : Bool) (X : Nat) (E : Int) (xb xo m xc : Nat) (R : List Nat → Prop) : Prop :=
  ∀ (buf : Value) (pre : List Nat) (w : World), Ls .u8 256 w buf pre → FlX w base b P M n X E xb xo m xc → pre.length ≤ 500 → (∀ y o, Fp buf y o → y ≠ b ∧ y ≠ xb) → Glob w →
    Calls Tryz.prog 125 #[.pointer (some ⟨b, 0, none⟩), buf, .int .u8 c, .int .i64 (-1)] w fun e w' => ∃ r, e = .returned r ∧ ∃ l, R l ∧ App .u8 256 w w' buf r (pre ++ l)
set_option maxRecDepth 100000 in
set_option maxHeartbeats 1000000 in
theorem float_Text_s (c b base P M : Nat) (n : Bool) (X : Nat) (E : Int) (xb xo m xc : Nat) (R : List Nat → Prop) (hR : ∀ l, R l → 0 < l.length) (hA : AppendOkS c b base P M n X E xb xo m xc R) (w : World) (hx : FlX w b base P M n X E xb xo m xc) (hg : Glob w) :
    Calls Tryz.prog 63 #[.pointer (some ⟨base, 0, none⟩), .int .u8 c, .int .i64 (-1)] w (TextOut R w) := by
  obtain ⟨ci, hi1, hi2, hi3, hi4⟩ := info_of info5
  have h17 := hg.size
  have hb := hx.fl.lt
  have hxb := hx.nt.1.lt
  have key : ∀ w1, Chg No w w1 → ∀ cp, NK .u8 256 w1 w.heap.size 0 0 cp → Calls Tryz.prog 125 #[.pointer (some ⟨base, 0, none⟩), .slice (some ⟨w.heap.size, 0, none⟩) 0 cp, .int .u8 c, .int .i64 (-1)] w1 fun e w' => ∃ r, e = .returned r ∧ ∃ l, R l ∧ App .u8 256 w1 w' (.slice (some ⟨w.heap.size, 0, none⟩) 0 cp) r ([] ++ l) := fun w1 hc cp hn =>
    hA _ [] w1 (.inr ⟨w.heap.size, 0, cp, rfl, hn, fun j hj => absurd hj (by simp)⟩) (hx.chg hc (fun _ f => f) (fun _ f => f)) (by simp) (fun y o f => ⟨by have h : y = w.heap.size := f.1; omega, by have h : y = w.heap.size := f.1; omega⟩) (hg.no hc)
  have Key := Lib.hid key
  clear key hA hx hb hxb
  go_enter Tryz.func63, Tryz.ntmps63
  go_wp2_with (refine wpList_makeN rfl km8 (.const (.int .i64 0)) (.tmp 14) 56 rfl 5 ci Tryz.underlying56 hi1 hi2 hi3 (by rw [hi4]; omega) _ _ 0 10 rfl rfl rfl rfl (by omega) (by omega) h17 ?_; intro w1 hc1 hs1 hn1 hz1)
  have HK := Lib.hid (Key.out w1 hc1 10 hn1)
  have HC := Lib.hid hc1
  clear hc1 hs1 hn1 hz1
  go_wp2_with fail
  refine HK.out.mono ?_
  rintro e w2 ⟨r, rfl, l, hl, ha⟩
  have HA := Lib.hid ha
  obtain ⟨rb, ro, rc, rfl, hs⟩ : ∃ rb ro rc, r = .slice (some ⟨rb, ro, none⟩) l.length rc ∧ Ls .u8 256 w2 r l := by
    have h1 := ha.ls
    rw [List.nil_append] at h1
    rcases h1 with ⟨_, h2⟩ | ⟨rb, ro, rc, h2, h3⟩
    · have := hR l hl; rw [h2] at this; simp at this
    · exact ⟨rb, ro, rc, h2, .inr ⟨rb, ro, rc, h2, h3⟩⟩
  have hcv := conv_txt rb ro rc l w2 hs
  have HRl := Lib.hid hl
  clear ha hl hs
  go_wp2_with fail
  go_ret
  exact ⟨l, HRl.out, rfl, HC.out.then HA.out.chg (fun y o hy f => by have h : y = w.heap.size := f.1; omega)⟩
set_option maxRecDepth 100000 in
set_option maxHeartbeats 1000000 in
theorem impl_Text_s (f P M : Nat) (n : Bool) (A : Option Addr) (c : Nat) (l : List Nat) (E : Int) (R : List Nat → Prop) (w : World) (hl : l.length ≤ 1000) (hm : ∀ x ∈ l, x < WB) (hr : RdU w A l) (hP0 : 0 < P) (hP : P < 60000) (hM : M < 6) (hX : Vl l < 2 ^ P) (hX0 : Vl l ≠ 0)
    (hE1 : -20000 ≤ E) (hE2 : E ≤ 20000) (hg : Glob w) (hR : ∀ l, R l → 0 < l.length) (hA : ∀ base b xb xo m xc, 0 < m → 64 * (m - 1) < blen (Vl l) → blen (Vl l) ≤ 64 * m → AppendOkS f b base P M n (Vl l) E xb xo m xc R) :
    Calls Tryz.prog 24 #[.agg #[.int .u64 P, .int .i64 M, .int .i64 1, .bool n, .slice A l.length c, .int .i64 E], .int .u8 f, .int .i64 (-1)] w (TextOut R w) := by
  have k0 := (Chg.refl No w).alloc (.cells #[.int .u64 P, .int .i64 M, .int .i64 1, .bool n, .slice A l.length c, .int .i64 E] 43)
  have H1 := Lib.hid (impl_float P M n A c l E (w.alloc (.cells #[.int .u64 P, .int .i64 M, .int .i64 1, .bool n, .slice A l.length c, .int .i64 E] 43)) hl hm (hr.chg k0) hP0 hP hM hX hX0 hE1 hE2 (Nat.le_trans hg.size k0.size))
  have K0 := Lib.hid k0
  clear hr k0 hm
  go_enter Tryz.func24, Tryz.ntmps24
  go_wp2_with fail
  refine H1.out.mono ?_
  rintro e w1 ⟨b, xb, xo, m, xc, rfl, hx, hb, hc⟩
  have K1 := K0.out.then hc (fun _ _ _ f => f)
  have H2 := Lib.hid (float_Text_s f _ b P M n (Vl l) E xb xo m xc R hR (hA b _ xb xo m xc hx.m0 hx.lo hx.hi) w1 hx (hg.no K1))
  have HK1 := Lib.hid K1
  clear hx hc K1
  go_wp2_with fail
  refine H2.out.mono ?_
  rintro e w2 ⟨t, ht, rfl, hc2⟩
  have HT := Lib.hid ht
  have HC2 := Lib.hid (HK1.out.then hc2 (fun _ _ _ f => f))
  clear ht hc2
  go_wp2_with fail
  go_ret
  exact ⟨t, HT.out, rfl, HC2.out⟩
theorem DecPure.unshift {X t : Nat} {E : Int} {ds : List Nat} {x : Int} (h : DecPure X E ds x) : DecPure (X * 2 ^ t) (E - t) ds x := by
  obtain ⟨⟨A, p, h1, h2⟩, h3⟩ := h
  refine ⟨⟨A, p, h1, ?_⟩, h3⟩
  obtain ⟨a, ha⟩ : ∃ a, a = (-(E - t)).toNat := ⟨_, rfl⟩
  obtain ⟨b, hb⟩ : ∃ b, b = (E - t).toNat := ⟨_, rfl⟩
  obtain ⟨c, hc⟩ : ∃ c, c = (-E).toNat := ⟨_, rfl⟩
  obtain ⟨d, hd⟩ : ∃ d, d = E.toNat := ⟨_, rfl⟩
  rw [← hc, ← hd] at h2
  rw [← ha, ← hb]
  have hx : t + b + c = d + a := by omega
  have h10 : 0 < 2 ^ c := Nat.pow_pos (by decide)
  apply Nat.eq_of_mul_eq_mul_right h10
  have e1 : A * 2 ^ a * 2 ^ c = A * 2 ^ c * 2 ^ a := by grind
  rw [e1, h2]
  have e2 : X * 2 ^ t * 2 ^ b * 2 ^ p * 2 ^ c = X * 2 ^ (t + b + c) * 2 ^ p := by rw [Nat.pow_add, Nat.pow_add]; grind
  rw [e2, hx, Nat.pow_add]; grind
/-- The figures of an exponent below 1000: two at least. -/
def deOf (a : Nat) : List Nat := if a < 10 then [0, a] else if a < 100 then [a / 10, a % 10] else [a / 100, a % 100 / 10, a % 100 % 10]
theorem deOf_asc (a : Nat) : (if a < 10 then [48] else []) ++ numTx a = asc (deOf a) := by
  unfold deOf numTx smallTx
  by_cases h1 : a < 10
  · rw [if_pos h1, if_pos (by omega), if_pos h1, if_pos h1]; rfl
  · rw [if_neg h1, if_neg h1]
    by_cases h2 : a < 100
    · simp only [if_pos h2, if_neg h1]; rfl
    · simp only [if_neg h2, if_neg h1]; rfl
theorem mtx_eq {ds : List Nat} {k : Nat} (h : ds.length = k + 1) : [atD ds 0] ++ fracTx ds 1 k = mtx ds k := by
  unfold mtx fracTx
  have h0 : [atD ds 0] = asc (ds.take 1) := by
    obtain ⟨d, l, rfl⟩ : ∃ d l, ds = d :: l := by
      cases ds with
      | nil => simp at h
      | cons d l => exact ⟨d, l, rfl⟩
    rfl
  rw [h0]
  congr 1
  by_cases hk : 0 < k
  · rw [if_pos hk, if_pos hk]
    congr 1
    apply List.ext_getElem
    · simp [asc]; omega
    · intro i h1 h2
      simp [asc] at h1 h2 ⊢
      rw [show (1 : Int) + (i : Int) = ((1 + i : Nat) : Int) by omega, atD_nat, gd_lt (by omega)]
      simp only [Nat.add_comm 1 i]
  · rw [if_neg hk, if_neg hk]
theorem eTx_eq {ds : List Nat} {x : Int} {k : Nat} (h : ds.length = k + 1) : eTx ds x k = mtx ds k ++ ptx (decide (x - 1 < 0)) (deOf (x - 1).natAbs) := by
  unfold eTx ptx expTx
  rw [mtx_eq h, deOf_asc]
  simp [List.append_assoc]
theorem cmp3_iff {a b : Nat} : cmp3 a b = 0 ↔ a = b := by
  unfold cmp3
  split
  · constructor <;> intro h <;> omega
  split
  · constructor <;> intro h <;> omega
  · constructor <;> intro h <;> omega
/-- A number whose odd part is not 1 lies above its highest power of two. -/
theorem not_two_pow {X m k : Nat} (h : X = m * 2 ^ k) (hm : m % 2 = 1) (h1 : m ≠ 1) (hX : X ≠ 0) : 2 ^ (blen X - 1) < X := by
  have hb := (blen_spec hX).2.1
  rcases Nat.lt_or_ge (2 ^ (blen X - 1)) X with h2 | h2
  · exact h2
  exfalso
  have he : m * 2 ^ k = 2 ^ (blen X - 1) := by omega
  generalize blen X - 1 = b at *
  have hp := Nat.two_pow_pos k
  rcases Nat.lt_or_ge b k with hk | hk
  · have h3 : 2 ^ b < 2 ^ k := Nat.pow_lt_pow_right (by decide) hk
    have h4 : 1 * 2 ^ k ≤ m * 2 ^ k := Nat.mul_le_mul_right _ (by omega)
    omega
  · obtain ⟨c, rfl⟩ : ∃ c, b = c + k := ⟨b - k, by omega⟩
    rw [Nat.pow_add] at he
    have h5 := Nat.eq_of_mul_eq_mul_right hp he
    cases c with
    | zero => exact h1 (by simpa using h5)
    | succ c => rw [Nat.pow_succ] at h5; omega
end Go.Proofs.YtacfhndledcmgaaGreatDoor
