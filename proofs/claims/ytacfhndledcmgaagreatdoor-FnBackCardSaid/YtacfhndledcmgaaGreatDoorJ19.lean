/- Lemmas for the law FnBack: impl.Text with a negative precision. Conditions: those in each theorem; none besides. -/
import Derived.Test.YtacfhndledcmgaaGreatDoorJ18
import Derived.Test.YtacfhndledcmgaaGreatDoorJ7
import Derived.Test.YtacfhndledcmgaaGreatDoorJ8
import Derived.Test.YtacfhndledcmgaaGreatDoorJ11
import Derived.Deep.RegionHeld3
set_option linter.unusedVariables false
set_option linter.unusedSimpArgs false
namespace Go.Proofs.YtacfhndledcmgaaGreatDoor
open Go.RowKit
/-- Two new blocks: a struct that is handed over, and one for the result. -/
theorem two_new (w : World) (us vs : Array Value) (t t' : TypeId) : Bk ((w.alloc (.cells us t)).alloc (.cells vs t')) w.heap.size us ∧ Bk ((w.alloc (.cells us t)).alloc (.cells vs t')) (w.heap.size + 1) vs ∧ Chg No w ((w.alloc (.cells us t)).alloc (.cells vs t')) := by
  have g1 := Bk.new w us t
  have k1 : Chg No w (w.alloc (.cells us t)) := (Chg.refl No w).alloc _
  have s1 : (w.alloc (.cells us t)).heap.size = w.heap.size + 1 := by simp
  have g2 := Bk.new (w.alloc (.cells us t)) vs t'
  have k2 := (Chg.refl No (w.alloc (.cells us t))).alloc (.cells vs t')
  rw [s1] at g2
  exact ⟨g1.chg k2 (fun _ f => f), g2, k1.then k2 (fun _ _ _ f => f)⟩
/-- A byte of a text. -/
theorem txt_get {l : List Nat} {i : Nat} (h : i < (txt l).size) (hb : ∀ x ∈ l, x < 256) : ((txt l)[i]'h).toNat = l.getD i 0 := by
  have h' : i < l.length := by rwa [txt_size] at h
  have e : (txt l)[i]'h = UInt8.ofNat (l[i]) := by
    show (txt l).data[i] = _
    simp [txt]
  rw [e, gd_lt h']
  have := hb l[i] (List.getElem_mem h')
  simp [UInt8.toNat_ofNat']; omega
theorem asc_getD (l : List Nat) {i : Nat} (h : i < l.length) : (asc l).getD i 0 = 48 + l.getD i 0 := by
  rw [gd_lt (by simpa [asc] using h), gd_lt h]; simp [asc]
/-- Append with as many figures as the value wants tells one of the texts R. -/
def AppendOkS (c base b P M : Nat) (n : Bool) (X : Nat) (E : Int) (xb xo m xc : Nat) (R : List Nat → Prop) : Prop :=
  ∀ (buf : Value) (pre : List Nat) (w : World), Ls .u8 256 w buf pre → FlX w base b P M n X E xb xo m xc → pre.length ≤ 500 → (∀ y o, Fp buf y o → y ≠ b ∧ y ≠ xb) → Glob w →
    Calls Tryz.prog 125 #[.pointer (some ⟨b, 0, none⟩), buf, .int .u8 c, .int .i64 (-1)] w fun e w' => ∃ r, e = .returned r ∧ ∃ l, R l ∧ App .u8 256 w w' buf r (pre ++ l)
set_option maxRecDepth 100000 in
set_option maxHeartbeats 1000000 in
theorem float_Text_s (c b base P M : Nat) (n : Bool) (X : Nat) (E : Int) (xb xo m xc : Nat) (R : List Nat → Prop) (hR : ∀ l, R l → 0 < l.length) (hA : AppendOkS c b base P M n X E xb xo m xc R) (w : World) (hx : FlX w b base P M n X E xb xo m xc) (hg : Glob w) :
    Calls Tryz.prog 63 #[.pointer (some ⟨base, 0, none⟩), .int .u8 c, .int .i64 (-1)] w (TextOut R w) := by
  obtain ⟨ci, hi1, hi2, hi3, hi4⟩ := info_of info5
  have h17 := hg.size
  have hb := hx.fl.lt
  have hxb := hx.nt.1.lt
  have key : ∀ w1, Chg No w w1 → ∀ cp, NK .u8 256 w1 w.heap.size 0 0 cp → Calls Tryz.prog 125 #[.pointer (some ⟨base, 0, none⟩), .slice (some ⟨w.heap.size, 0, none⟩) 0 cp, .int .u8 c, .int .i64 (-1)] w1 fun e w' => ∃ r, e = .returned r ∧ ∃ l, R l ∧ App .u8 256 w1 w' (.slice (some ⟨w.heap.size, 0, none⟩) 0 cp) r ([] ++ l) := fun w1 hc cp hn =>
    hA _ [] w1 (.inr ⟨w.heap.size, 0, cp, rfl, hn, fun j hj => absurd hj (by simp)⟩) (hx.chg hc (fun _ f => f) (fun _ f => f)) (by simp) (fun y o f => ⟨by have h : y = w.heap.size := f.1; omega, by have h : y = w.heap.size := f.1; omega⟩) (hg.no hc)
  have Key := Lib.hid key
  clear key hA hx hb hxb
  go_enter Tryz.func63, Tryz.ntmps63
  go_wp2_with (refine wpList_makeN rfl km8 (.const (.int .i64 0)) (.tmp 14) 56 rfl 5 ci Tryz.underlying56 hi1 hi2 hi3 (by rw [hi4]; omega) _ _ 0 10 rfl rfl rfl rfl (by omega) (by omega) h17 ?_; intro w1 hc1 hs1 hn1 hz1)
  have HK := Lib.hid (Key.out w1 hc1 10 hn1)
  have HC := Lib.hid hc1
  clear hc1 hs1 hn1 hz1
  go_wp2_with fail
  refine HK.out.mono ?_
  rintro e w2 ⟨r, rfl, l, hl, ha⟩
  have HA := Lib.hid ha
  obtain ⟨rb, ro, rc, rfl, hs⟩ : ∃ rb ro rc, r = .slice (some ⟨rb, ro, none⟩) l.length rc ∧ Ls .u8 256 w2 r l := by
    have h1 := ha.ls
    rw [List.nil_append] at h1
    rcases h1 with ⟨_, h2⟩ | ⟨rb, ro, rc, h2, h3⟩
    · have := hR l hl; rw [h2] at this; simp at this
    · exact ⟨rb, ro, rc, h2, .inr ⟨rb, ro, rc, h2, h3⟩⟩
  have hcv := conv_txt rb ro rc l w2 hs
  have HRl := Lib.hid hl
  clear ha hl hs
  go_wp2_with fail
  go_ret
  exact ⟨l, HRl.out, rfl, HC.out.then HA.out.chg (fun y o hy f => by have h : y = w.heap.size := f.1; omega)⟩
set_option maxRecDepth 100000 in
set_option maxHeartbeats 1000000 in
theorem impl_Text_s (f P M : Nat) (n : Bool) (A : Option Addr) (c : Nat) (l : List Nat) (E : Int) (R : List Nat → Prop) (w : World) (hl : l.length ≤ 1000) (hm : ∀ x ∈ l, x < WB) (hr : RdU w A l) (hP0 : 0 < P) (hP : P < 60000) (hM : M < 6) (hX : Vl l < 2 ^ P) (hX0 : Vl l ≠ 0)
    (hE1 : -20000 ≤ E) (hE2 : E ≤ 20000) (hg : Glob w) (hR : ∀ l, R l → 0 < l.length) (hA : ∀ base b xb xo m xc, 0 < m → 64 * (m - 1) < blen (Vl l) → blen (Vl l) ≤ 64 * m → AppendOkS f b base P M n (Vl l) E xb xo m xc R) :
    Calls Tryz.prog 24 #[.agg #[.int .u64 P, .int .i64 M, .int .i64 1, .bool n, .slice A l.length c, .int .i64 E], .int .u8 f, .int .i64 (-1)] w (TextOut R w) := by
  have k0 := (Chg.refl No w).alloc (.cells #[.int .u64 P, .int .i64 M, .int .i64 1, .bool n, .slice A l.length c, .int .i64 E] 43)
  have H1 := Lib.hid (impl_float P M n A c l E (w.alloc (.cells #[.int .u64 P, .int .i64 M, .int .i64 1, .bool n, .slice A l.length c, .int .i64 E] 43)) hl hm (hr.chg k0) hP0 hP hM hX hX0 hE1 hE2 (Nat.le_trans hg.size k0.size))
  have K0 := Lib.hid k0
  clear hr k0 hm
  go_enter Tryz.func24, Tryz.ntmps24
  go_wp2_with fail
  refine H1.out.mono ?_
  rintro e w1 ⟨b, xb, xo, m, xc, rfl, hx, hb, hc⟩
  have K1 := K0.out.then hc (fun _ _ _ f => f)
  have H2 := Lib.hid (float_Text_s f _ b P M n (Vl l) E xb xo m xc R hR (hA b _ xb xo m xc hx.m0 hx.lo hx.hi) w1 hx (hg.no K1))
  have HK1 := Lib.hid K1
  clear hx hc K1
  go_wp2_with fail
  refine H2.out.mono ?_
  rintro e w2 ⟨t, ht, rfl, hc2⟩
  have HT := Lib.hid ht
  have HC2 := Lib.hid (HK1.out.then hc2 (fun _ _ _ f => f))
  clear ht hc2
  go_wp2_with fail
  go_ret
  exact ⟨t, HT.out, rfl, HC2.out⟩
end Go.Proofs.YtacfhndledcmgaaGreatDoor
