/- Lemmas for the law FnShortest: the shortest text of format e. Conditions: those in each theorem; none besides. -/
import Derived.Test.YtacfhndledcmgaaGreatDoorH13
import Derived.Test.YtacfhndledcmgaaGreatDoorH18
import Derived.Test.YtacfhndledcmgaaGreatDoorH14
import Derived.Test.YtacfhndledcmgaaGreatDoorH17
import Derived.Test.YtacfhndledcmgaaGreatDoorH15
set_option linter.unusedVariables false
set_option linter.unusedSimpArgs false
namespace Go.Proofs.YtacfhndledcmgaaGreatDoor
open Go.RowKit
/-- The shortest decimal has no more figures than the whole one, and its exponent lies by it. -/
theorem ShAll.bnd {ds ls us ds' : List Nat} {x x' : Int} {inc : Prop} (ho : DOrd ds) (h : ShAll ds ls us x inc ds' x') : DOrd ds' ∧ ds'.length ≤ ds.length ∧ x ≤ x' ∧ x' ≤ x + 1 := by
  obtain ⟨i, -, -, ⟨-, rfl, rfl⟩ | ⟨h1, h2, h3, T, e, h4, h5, h6⟩⟩ := h
  · exact ⟨ho, Nat.le_refl _, by omega, by omega⟩
  · have g1 := dp_floor ho.2.2.2 (i := 1) (r := i + 1) (by omega)
    rw [dp_one, Nat.add_sub_cancel] at g1
    have g2 : 1 * 10 ^ i ≤ ds.getD 0 0 * 10 ^ i := Nat.mul_le_mul_right _ (Nat.pos_of_ne_zero ho.2.1)
    have g3 := dp_lt ho.2.2.2 (i + 1)
    have g4 : 10 ^ i ≤ T ∧ T ≤ 10 ^ (i + 1) := by rcases h6 with ⟨h, _⟩ | ⟨h, _⟩ <;> omega
    have k1 := Nd_lt ds' h2.2.2.2
    have k2 := Nd_ge h2.1 h2.2.1
    have k3 : 10 ^ i < 10 ^ (ds'.length + e) := by
      rw [Nat.pow_add]
      exact Nat.lt_of_le_of_lt (h4 ▸ g4.1) (Nat.mul_lt_mul_of_pos_right k1 (ten_pos e))
    have k4 : 10 ^ (ds'.length - 1 + e) ≤ 10 ^ (i + 1) := by
      rw [Nat.pow_add]
      exact Nat.le_trans (Nat.mul_le_mul_right _ k2) (h4 ▸ g4.2)
    have k5 := (Nat.pow_lt_pow_iff_right (by decide)).1 k3
    have k6 := (Nat.pow_le_pow_iff_right (by decide)).1 k4
    have := h2.1
    exact ⟨h2, by omega, by omega, by omega⟩
/-- The text of format e with as many figures as the value wants. -/
def ShOut (Y : Nat) (sh : Int) (MM : Nat) (t : Int) (l : List Nat) : Prop :=
  ∃ ds x ls xl us xu ds' x', DecPure Y sh ds x ∧ DecPure (MM - 1) t ls xl ∧ DecPure (MM + 1) t us xu ∧ ShAll ds ls us x (MM / 2 % 2 = 0) ds' x' ∧ l = eTx ds' x' (ds'.length - 1)
set_option maxRecDepth 100000 in
set_option maxHeartbeats 4000000 in
theorem append_s (buf : Value) (pre : List Nat) (base b P M : Nat) (n : Bool) (X : Nat) (E : Int) (xb xo m xc G MM : Nat) (t : Int) (w : World) (hb : Ls .u8 256 w buf pre) (hx : FlX w base b P M n X E xb xo m xc) (hpre : pre.length ≤ 500) (hm : m ≤ 300)
    (hE1 : -200 ≤ E) (hE2 : E ≤ 200) (hG : G = P + 1 - blen X) (ht : t = E - G) (hM : MM = X * 2 ^ G) (hX2 : 2 ≤ X) (hbP : blen X ≤ P) (hP : P ≤ 100) (hbb : ∀ y o, Fp buf y o → y ≠ b ∧ y ≠ xb) (hg : Glob w) (hSm : Small (upTo X m * 2 ^ (shOf X m E).toNat)) (hxb : ∀ ds x, DecPure (upTo X m) (shOf X m E) ds x → -800 ≤ x ∧ x ≤ 800) (hI : ∀ A, A ≠ 0 → A ≤ upTo X m * 2 ^ (shOf X m E).toNat → ItoaOk A) :
    Calls Tryz.prog 125 #[.pointer (some ⟨b, 0, none⟩), buf, .int .u8 101, .int .i64 (-1)] w fun e w' => ∃ r, e = .returned r ∧ ∃ l, ShOut (upTo X m) (shOf X m E) MM t l ∧ App .u8 256 w w' buf r (pre ++ sgn n ++ l) := by
  have h17 := hg.size
  have HMM := Lib.hid (And.intro hG (And.intro ht (And.intro hM (And.intro hX2 hbP))))
  clear hG ht hM hX2 hbP
  obtain ⟨c0, c1, c2, c3, c4, c5, c6, -, -, -, -, -⟩ := hx.fl
  have A0 := Lib.hid (App.refl hb)
  go_enter Tryz.func125, Tryz.ntmps125
  go_upto_if 16 with fail
  go_cut [1] (fun zv wx => ∃ pre', Hid (App .u8 256 w wx buf zv pre') ∧ Hid (pre' = pre ++ sgn n))
  case first =>
    cases n
    · go_wp2_with fail
      go_meet
      exact ⟨pre, A0, Lib.hid (by simp [sgn])⟩
    · go_wp2_with (refine wpList_app1 (w0 := w) (z0 := buf) (l := pre) (c := 45) rfl (.tmp 17) (.tmp 18) rfl rfl rfl A0.out (by omega) (by omega) h17 ?_; intro r w2 ha; have HA := Lib.hid ha; clear ha)
      go_meet
      exact ⟨pre ++ [45], HA, Lib.hid (by simp [sgn])⟩
  case rest =>
    obtain ⟨pre', HA, HP⟩ := hcut
    generalize wc = wa at *
    have hx1 := hx.chg HA.out.chg (fun o f => (hbb _ _ f).1 rfl) (fun o f => (hbb _ _ f).2 rfl)
    have hlt := hx1.fl.lt
    have hX0 := hx1.X0
    have hbl := blen_upTo hX0 hx1.m0 hx1.hi
    have hblX := hx1.hi
    have hblo := hx1.lo
    obtain ⟨bX, hbX⟩ : ∃ bX, bX = blen X := ⟨_, rfl⟩
    obtain ⟨bM, hbM⟩ : ∃ bM, bM = 64 * m := ⟨_, rfl⟩
    obtain ⟨sh, hsh⟩ : ∃ sh : Int, sh = (bX : Int) + E - (bM : Int) := ⟨_, rfl⟩
    have hsh2 : sh = shOf X m E := by unfold shOf; rw [hsh, hbX, hbM]
    have ib1 : bX ≤ 20000 := by omega
    have ib2 : bM ≤ 20000 := by omega
    have esh : (bX : Int) + E - (bM : Int) = sh := hsh.symm
    have ew1 : IntKind.i64.wrap ((bX : Int) + E) = (bX : Int) + E := IntWalk.i64_in _ (by omega)
    have ew2 : IntKind.i64.wrap sh = sh := IntWalk.i64_in _ (by omega)
    obtain ⟨c0, c1, c2, c3, c4, c5, c6, -, -, -, -, -⟩ := hx1.fl
    rw [← hbX] at c6
    have hgW : Glob wa := ⟨Nat.le_trans hg.size HA.out.chg.size, fun bb oo v e => (HA.out.chg.cell bb oo (Nat.lt_of_lt_of_le (gcell_lt e) hg.size) (fun f => by have := (hb.fp_lt f).2; have := gcell_lt e; omega)).trans (hg.cell bb oo v e)⟩
    have hbwc := fun y o (f : Fp buf y o) => (hb.fp_lt f).1
    have HW : Hid (∀ W, W = wa.alloc (.cells #[.slice none 0 0, .int .i64 0] 235) → (∀ j, Calls Tryz.prog 194 #[.slice (some ⟨xb, xo, none⟩) m xc] (W.drewN j) fun e w' => e = .returned (.int .i64 bM) ∧ ∃ j, w' = W.drewN j) ∧
        (∀ j, Calls Tryz.prog 193 #[.pointer (some ⟨wa.heap.size, 0, none⟩), .slice (some ⟨xb, xo, none⟩) m xc, .int .i64 sh] (W.drewN j) fun e w' => e = .returned (.tuple #[]) ∧ ∃ xb' xo' xc' ds x, DecIs w' wa.heap.size (upTo X m) sh xb' xo' xc' ds x ∧ wa.heap.size < xb' ∧ Chg No wa w')) := Lib.hid (by
      rintro W rfl
      have hk := (Chg.refl No wa).alloc (.cells #[.slice none 0 0, .int .i64 0] 235)
      have hnW := hx1.nt.chg hk (fun _ _ f => f)
      have hsmall : Small (upTo X m) := small_le hSm (Nat.le_mul_of_pos_right _ (Nat.two_pow_pos _))
      refine ⟨fun j => ?_, fun j => ?_⟩
      · have := nat_bitLen_d _ _ _ hnW.nt hsmall j
        rw [hbl, ← hbM] at this
        exact this
      · have hy0 : upTo X m ≠ 0 := by have := upTo_ge hX0 hx1.hi; have := Nat.two_pow_pos (64 * m - 1); omega
        have hs17 : 17 ≤ wa.heap.size := hgW.size
        refine (dec_init wa.heap.size xb xo m xc (upTo X m) sh ((wa.alloc (.cells #[.slice none 0 0, .int .i64 0] 235)).drewN j) (hnW.drewN j) hx1.m0 (by omega) hy0 (World.cell?_alloc_new _ _ _ _) (World.cell?_alloc_new _ _ _ _) (Plain.new _ _ _) hs17 ((hgW.no hk).drewN j) (by omega) (by omega) (by rw [hsh2]; exact hSm) (by rw [hsh2]; exact hI)).mono ?_
        rintro e w' ⟨h1, xb', xo', xc', ds, x, h2, h3, h4⟩
        refine ⟨h1, xb', xo', xc', ds, x, h2, ?_, (hk.drewN j).then h4 (fun y o hy f => ?_)⟩
        · have h5 : (wa.alloc (.cells #[.slice none 0 0, .int .i64 0] 235)).heap.size ≤ xb' := h3
          rw [hsz] at h5; omega
        · exact absurd f (Nat.ne_of_lt hy))
    have HSH := Lib.hid hsh2
    clear hbX hbM hsh hsh2 hbl hblX hX0 hblo
    go_upto_if 56 with fail
    generalize hWe : wa.alloc (.cells #[.slice none 0 0, .int .i64 0] 235) = W
    obtain ⟨H4, H3⟩ := HW.out W hWe.symm
    have H4 := Lib.hid H4
    have H3 := Lib.hid H3
    have k6 : Chg No wa W := by rw [← hWe]; exact (Chg.refl No wa).alloc _
    have d5 := (k6.cell b 5 hlt (fun f => f)).trans c5
    have d6 := (k6.cell b 6 hlt (fun f => f)).trans c6
    have d4 := (k6.cell b 4 hlt (fun f => f)).trans c4
    clear HW k6 hWe c5 c6
    go_cut [9] (fun dv wx => dv = .pointer (some ⟨wa.heap.size, 0, none⟩) ∧ ∃ (yb yo yc : Nat) (ds : List Nat) (x : Int), Hid (DecIs wx wa.heap.size (upTo X m) sh yb yo yc ds x) ∧ Hid (wa.heap.size < yb) ∧ Hid (Chg No wa wx))
    case first =>
      go_wp2_with fail
      go_region_with (first
        | (go_at_call 194; refine (H4.out _).mono ?_; rintro e w2 ⟨rfl, j, rfl⟩)
        | (go_at_call 193; (with_reducible refine (H3.out _).mono ?_); rintro e w3 ⟨rfl, yb, yo, yc, ds, x, hd1, hd2, hd3⟩; have HD1 := Lib.hid hd1; have HD2 := Lib.hid hd2; have HD3 := Lib.hid hd3; clear hd1 hd2 hd3))
      all_goals (go_wp2_with fail; go_meet; exact ⟨rfl, yb, yo, yc, ds, x, HD1, HD2, HD3⟩)
    case rest =>
      obtain ⟨rfl, yb, yo, yc, ds, x, HD1, HD2, HD3⟩ := hcut
      have hgc := hgW.no HD3.out
      have hds := HD1.out
      obtain ⟨g1, g2, g3, g4, g5, g6, g7, g8⟩ := hds
      have HAc := Lib.hid (HA.out.no HD3.out)
      have hd4 := (HD3.out.cell b 4 hlt (fun f => f)).trans c4
      have hub : ∀ y o, Fp u1 y o → y < wa.heap.size := fun y o f => (HA.out.ls.fp_lt f).1
      have hord : DOrd ds := ⟨g3, g4, g5, g1.d10⟩
      have hxc := hx1.chg HD3.out (fun _ f => f) (fun _ f => f)
      have HR := Lib.hid (dec_roundShortest _ yb yo yc ds x base b P M n X E t G MM xb xo m xc wc g1 hord g6 g7 g8 hxc hgc HMM.out.1 HMM.out.2.1 HMM.out.2.2.1 HMM.out.2.2.2.1 HMM.out.2.2.2.2 hP hE1 hE2)
      have HOrd := Lib.hid hord
      clear g1 g2 g3 g4 g5 g6 g7 g8 hord hxc
      go_wp2_with fail
      refine HR.out.mono ?_
      rintro e w5 ⟨rfl, ds', x', ls, us, xl, xu, hl1, hu1, hall, hd, hk5⟩
      have HAll := Lib.hid (And.intro hl1 (And.intro hu1 hall))
      have hbnd := hall.bnd HOrd.out
      have hsz5 := HA.out.chg.size
      have HA5 := Lib.hid (HAc.out.step hk5 (fun y o f g => by
        have := hub y o g
        rcases f with f | f
        · omega
        · have := HD2.out; omega) (fun y o hy f => by
        rcases f with f | f
        · omega
        · have := HD2.out; omega))
      have hpl : pre'.length ≤ 501 := by rw [HP.out]; cases n <;> simp [sgn] <;> omega
      obtain ⟨i1, i2, i3, i4, i5, i6, i7, i8⟩ := HD1.out
      have hxx := hxb ds x ⟨by rw [← HSH.out]; exact i2, i3, i4, i5, i1.d10, i7, i8⟩
      have hg5 : Glob w5 := hgc.chg hk5 (fun y o f => by
        rcases f with f | f
        · have := hgW.size; omega
        · have := HD2.out; have := hgW.size; omega)
      have hd0 := hbnd.1.1
      obtain ⟨k, hk⟩ : ∃ k, ds'.length = k + 1 := ⟨ds'.length - 1, by omega⟩
      have HF := dec_fmtE u1 pre' k yb yo yc _ ds' x' w5 HA5.out.ls hd (by omega) (by omega) (by omega) (by omega) (by omega) (fun y o f => by have := hub y o f; have := HD2.out; omega) hbnd.1.1 hg5
      have e0 := hd.c0
      have e1 := hd.c1
      rw [hk] at HF e0
      have HF := Lib.hid HF
      have HK := Lib.hid hk
      have hkk : ((k + 1 : Nat) : Int) - 1 = (k : Int) := by omega
      have hkb : k ≤ 100000 := by omega
      clear hd hk5 hpl hxx hg5 i1 i2 i3 i4 i5 i6 i7 i8 hl1 hu1 hall hbnd hk hd0
      go_wp2_with fail
      refine HF.out.mono ?_
      rintro e w6 ⟨r, rfl, ha⟩
      have HA6 := Lib.hid (HA5.out.trans ha)
      clear ha
      go_wp2_with fail
      go_ret
      obtain ⟨i1, i2, i3, i4, i5, i6, i7, i8⟩ := HD1.out
      refine ⟨r, rfl, _, ⟨ds, x, ls, xl, us, xu, ds', x', ⟨by rw [← HSH.out]; exact i2, i3, i4, i5, i1.d10, i7, i8⟩, HAll.out.1, HAll.out.2.1, HAll.out.2.2, rfl⟩, ?_⟩
      rw [← HP.out, HK.out]; exact HA6.out
/-- Append with as many figures as the value wants tells one of the texts R. -/
def AppendOkS (c base b P M : Nat) (n : Bool) (X : Nat) (E : Int) (xb xo m xc : Nat) (R : List Nat → Prop) : Prop :=
  ∀ (buf : Value) (pre : List Nat) (w : World), Ls .u8 256 w buf pre → FlX w base b P M n X E xb xo m xc → pre.length ≤ 500 → (∀ y o, Fp buf y o → y ≠ b ∧ y ≠ xb) → Glob w →
    Calls Tryz.prog 125 #[.pointer (some ⟨b, 0, none⟩), buf, .int .u8 c, .int .i64 (-1)] w fun e w' => ∃ r, e = .returned r ∧ ∃ l, R l ∧ App .u8 256 w w' buf r (pre ++ l)
set_option maxRecDepth 100000 in
set_option maxHeartbeats 1000000 in
theorem float_Text_s (c b base P M : Nat) (n : Bool) (X : Nat) (E : Int) (xb xo m xc : Nat) (R : List Nat → Prop) (hR : ∀ l, R l → 0 < l.length) (hA : AppendOkS c b base P M n X E xb xo m xc R) (w : World) (hx : FlX w b base P M n X E xb xo m xc) (hg : Glob w) :
    Calls Tryz.prog 63 #[.pointer (some ⟨base, 0, none⟩), .int .u8 c, .int .i64 (-1)] w (TextOut R w) := by
  obtain ⟨ci, hi1, hi2, hi3, hi4⟩ := info_of info5
  have h17 := hg.size
  have hb := hx.fl.lt
  have hxb := hx.nt.1.lt
  have key : ∀ w1, Chg No w w1 → ∀ cp, NK .u8 256 w1 w.heap.size 0 0 cp → Calls Tryz.prog 125 #[.pointer (some ⟨base, 0, none⟩), .slice (some ⟨w.heap.size, 0, none⟩) 0 cp, .int .u8 c, .int .i64 (-1)] w1 fun e w' => ∃ r, e = .returned r ∧ ∃ l, R l ∧ App .u8 256 w1 w' (.slice (some ⟨w.heap.size, 0, none⟩) 0 cp) r ([] ++ l) := fun w1 hc cp hn =>
    hA _ [] w1 (.inr ⟨w.heap.size, 0, cp, rfl, hn, fun j hj => absurd hj (by simp)⟩) (hx.chg hc (fun _ f => f) (fun _ f => f)) (by simp) (fun y o f => ⟨by have h : y = w.heap.size := f.1; omega, by have h : y = w.heap.size := f.1; omega⟩) (hg.no hc)
  have Key := Lib.hid key
  clear key hA hx hb hxb
  go_enter Tryz.func63, Tryz.ntmps63
  go_wp2_with (refine wpList_makeN rfl km8 (.const (.int .i64 0)) (.tmp 14) 56 rfl 5 ci Tryz.underlying56 hi1 hi2 hi3 (by rw [hi4]; omega) _ _ 0 10 rfl rfl rfl rfl (by omega) (by omega) h17 ?_; intro w1 hc1 hs1 hn1 hz1)
  have HK := Lib.hid (Key.out w1 hc1 10 hn1)
  have HC := Lib.hid hc1
  clear hc1 hs1 hn1 hz1
  go_wp2_with fail
  refine HK.out.mono ?_
  rintro e w2 ⟨r, rfl, l, hl, ha⟩
  have HA := Lib.hid ha
  obtain ⟨rb, ro, rc, rfl, hs⟩ : ∃ rb ro rc, r = .slice (some ⟨rb, ro, none⟩) l.length rc ∧ Ls .u8 256 w2 r l := by
    have h1 := ha.ls
    rw [List.nil_append] at h1
    rcases h1 with ⟨_, h2⟩ | ⟨rb, ro, rc, h2, h3⟩
    · have := hR l hl; rw [h2] at this; simp at this
    · exact ⟨rb, ro, rc, h2, .inr ⟨rb, ro, rc, h2, h3⟩⟩
  have hcv := conv_txt rb ro rc l w2 hs
  have HRl := Lib.hid hl
  clear ha hl hs
  go_wp2_with fail
  go_ret
  exact ⟨l, HRl.out, rfl, HC.out.then HA.out.chg (fun y o hy f => by have h : y = w.heap.size := f.1; omega)⟩
set_option maxRecDepth 100000 in
set_option maxHeartbeats 1000000 in
theorem impl_Text_s (f P M : Nat) (n : Bool) (A : Option Addr) (c : Nat) (l : List Nat) (E : Int) (R : List Nat → Prop) (w : World) (hl : l.length ≤ 1000) (hm : ∀ x ∈ l, x < WB) (hr : RdU w A l) (hP0 : 0 < P) (hP : P < 60000) (hM : M < 6) (hX : Vl l < 2 ^ P) (hX0 : Vl l ≠ 0)
    (hE1 : -20000 ≤ E) (hE2 : E ≤ 20000) (hg : Glob w) (hR : ∀ l, R l → 0 < l.length) (hA : ∀ base b xb xo m xc, 0 < m → 64 * (m - 1) < blen (Vl l) → blen (Vl l) ≤ 64 * m → AppendOkS f b base P M n (Vl l) E xb xo m xc R) :
    Calls Tryz.prog 24 #[.agg #[.int .u64 P, .int .i64 M, .int .i64 1, .bool n, .slice A l.length c, .int .i64 E], .int .u8 f, .int .i64 (-1)] w (TextOut R w) := by
  have k0 := (Chg.refl No w).alloc (.cells #[.int .u64 P, .int .i64 M, .int .i64 1, .bool n, .slice A l.length c, .int .i64 E] 43)
  have H1 := Lib.hid (impl_float P M n A c l E (w.alloc (.cells #[.int .u64 P, .int .i64 M, .int .i64 1, .bool n, .slice A l.length c, .int .i64 E] 43)) hl hm (hr.chg k0) hP0 hP hM hX hX0 hE1 hE2 (Nat.le_trans hg.size k0.size))
  have K0 := Lib.hid k0
  clear hr k0 hm
  go_enter Tryz.func24, Tryz.ntmps24
  go_wp2_with fail
  refine H1.out.mono ?_
  rintro e w1 ⟨b, xb, xo, m, xc, rfl, hx, hb, hc⟩
  have K1 := K0.out.then hc (fun _ _ _ f => f)
  have H2 := Lib.hid (float_Text_s f _ b P M n (Vl l) E xb xo m xc R hR (hA b _ xb xo m xc hx.m0 hx.lo hx.hi) w1 hx (hg.no K1))
  have HK1 := Lib.hid K1
  clear hx hc K1
  go_wp2_with fail
  refine H2.out.mono ?_
  rintro e w2 ⟨t, ht, rfl, hc2⟩
  have HT := Lib.hid ht
  have HC2 := Lib.hid (HK1.out.then hc2 (fun _ _ _ f => f))
  clear ht hc2
  go_wp2_with fail
  go_ret
  exact ⟨t, HT.out, rfl, HC2.out⟩
theorem DecPure.unshift {X t : Nat} {E : Int} {ds : List Nat} {x : Int} (h : DecPure X E ds x) : DecPure (X * 2 ^ t) (E - t) ds x := by
  obtain ⟨⟨A, p, h1, h2⟩, h3⟩ := h
  refine ⟨⟨A, p, h1, ?_⟩, h3⟩
  obtain ⟨a, ha⟩ : ∃ a, a = (-(E - t)).toNat := ⟨_, rfl⟩
  obtain ⟨b, hb⟩ : ∃ b, b = (E - t).toNat := ⟨_, rfl⟩
  obtain ⟨c, hc⟩ : ∃ c, c = (-E).toNat := ⟨_, rfl⟩
  obtain ⟨d, hd⟩ : ∃ d, d = E.toNat := ⟨_, rfl⟩
  rw [← hc, ← hd] at h2
  rw [← ha, ← hb]
  have hx : t + b + c = d + a := by omega
  have h10 : 0 < 2 ^ c := Nat.pow_pos (by decide)
  apply Nat.eq_of_mul_eq_mul_right h10
  have e1 : A * 2 ^ a * 2 ^ c = A * 2 ^ c * 2 ^ a := by grind
  rw [e1, h2]
  have e2 : X * 2 ^ t * 2 ^ b * 2 ^ p * 2 ^ c = X * 2 ^ (t + b + c) * 2 ^ p := by rw [Nat.pow_add, Nat.pow_add]; grind
  rw [e2, hx, Nat.pow_add]; grind
/-- The figures of an exponent below 1000: two at least. -/
def deOf (a : Nat) : List Nat := if a < 10 then [0, a] else if a < 100 then [a / 10, a % 10] else [a / 100, a % 100 / 10, a % 100 % 10]
theorem deOf_asc (a : Nat) : (if a < 10 then [48] else []) ++ numTx a = asc (deOf a) := by
  unfold deOf numTx smallTx
  by_cases h1 : a < 10
  · rw [if_pos h1, if_pos (by omega), if_pos h1, if_pos h1]; rfl
  · rw [if_neg h1, if_neg h1]
    by_cases h2 : a < 100
    · simp only [if_pos h2, if_neg h1]; rfl
    · simp only [if_neg h2, if_neg h1]; rfl
theorem deOf_spec {a : Nat} (h : a < 1000) : 1 ≤ (deOf a).length ∧ (deOf a).length ≤ 4 ∧ (∀ d ∈ deOf a, d < 10) ∧ Nd (deOf a) = a := by
  unfold deOf
  split
  · refine ⟨by simp, by simp, fun d hd => ?_, by simp [Nd]⟩
    simp at hd; omega
  split
  · refine ⟨by simp, by simp, fun d hd => ?_, by simp [Nd]; omega⟩
    simp at hd; omega
  · refine ⟨by simp, by simp, fun d hd => ?_, by simp [Nd]; omega⟩
    simp at hd; omega
theorem mtx_eq {ds : List Nat} {k : Nat} (h : ds.length = k + 1) : [atD ds 0] ++ fracTx ds 1 k = mtx ds k := by
  unfold mtx fracTx
  have h0 : [atD ds 0] = asc (ds.take 1) := by
    obtain ⟨d, l, rfl⟩ : ∃ d l, ds = d :: l := by
      cases ds with
      | nil => simp at h
      | cons d l => exact ⟨d, l, rfl⟩
    rfl
  rw [h0]
  congr 1
  by_cases hk : 0 < k
  · rw [if_pos hk, if_pos hk]
    congr 1
    apply List.ext_getElem
    · simp [asc]; omega
    · intro i h1 h2
      simp [asc] at h1 h2 ⊢
      rw [show (1 : Int) + (i : Int) = ((1 + i : Nat) : Int) by omega, atD_nat, gd_lt (by omega)]
      simp only [Nat.add_comm 1 i]
  · rw [if_neg hk, if_neg hk]
theorem eTx_eq {ds : List Nat} {x : Int} {k : Nat} (h : ds.length = k + 1) : eTx ds x k = mtx ds k ++ ptx (decide (x - 1 < 0)) (deOf (x - 1).natAbs) := by
  unfold eTx ptx expTx
  rw [mtx_eq h, deOf_asc]
  simp [List.append_assoc]
/-- The shortest text, as 'roundShortest' leaves it. -/
def ShTxt (n : Bool) (X P : Nat) (E : Int) (l : List Nat) : Prop :=
  ∃ ds x ls xl us xu ds' x', DecPure X E ds x ∧ DecPure (X * 2 ^ (P + 1 - blen X) - 1) (E - (P + 1 - blen X : Nat)) ls xl ∧ DecPure (X * 2 ^ (P + 1 - blen X) + 1) (E - (P + 1 - blen X : Nat)) us xu ∧
    ShAll ds ls us x (X * 2 ^ (P + 1 - blen X) / 2 % 2 = 0) ds' x' ∧ -800 ≤ x ∧ x ≤ 800 ∧ l = sgn n ++ eTx ds' x' (ds'.length - 1)
theorem appendOk_s (b base P M : Nat) (n : Bool) (X : Nat) (E : Int) (xb xo m xc : Nat) (hX2 : 2 ≤ X) (hbP : blen X ≤ P) (hP : P ≤ 100) (hE1 : -200 ≤ E) (hE2 : E ≤ 200) (hm0 : 0 < m) (hm1 : 64 * (m - 1) < blen X) (hm2 : blen X ≤ 64 * m) :
    AppendOkS 101 b base P M n X E xb xo m xc (ShTxt n X P E) := by
  intro buf pre w hb hx hpre hbb hg
  have h0 : X ≠ 0 := by omega
  have hX : X < 2 ^ 100 := Nat.lt_of_lt_of_le (blen_spec h0).2.2 (Nat.pow_le_pow_right (by decide) (by omega))
  have hXX : X < 2 ^ 200 := Nat.lt_trans hX (Nat.pow_lt_pow_right (by decide) (by decide))
  have hsz := upTo_size (m := m) (Q := 200) (E := E) h0 hXX (by clear hX hXX; omega) hm2 (by omega)
  have e1 : shOf X m E = E - ((64 * m - blen X : Nat) : Int) := by unfold shOf; omega
  have hbd : ∀ ds x, DecPure (upTo X m) (shOf X m E) ds x → -800 ≤ x ∧ x ≤ 800 := fun ds x hp => by
    rw [e1] at hp
    exact dec_bound hp.shift hXX (by omega) (by omega)
  refine (append_s buf pre b base P M n X E xb xo m xc (P + 1 - blen X) (X * 2 ^ (P + 1 - blen X)) (E - (P + 1 - blen X : Nat)) w hb hx hpre (by omega) hE1 hE2 rfl rfl rfl hX2 hbP hP hbb hg (small_words hsz (by omega)) hbd (fun A hA1 hA2 => itoaOk_small hA1 (Nat.lt_of_le_of_lt hA2 hsz))).mono ?_
  rintro e w' ⟨r, h1, l, ⟨ds, x, ls, xl, us, xu, ds', x', a1, a2, a3, a4, rfl⟩, h3⟩
  have hb := hbd ds x a1
  rw [e1] at a1
  refine ⟨r, h1, _, ⟨ds, x, ls, xl, us, xu, ds', x', a1.shift, a2, a3, a4, hb.1, hb.2, rfl⟩, by rw [← List.append_assoc]; exact h3⟩
/-- What the shortest text is: its figures and its exponent. -/
theorem ShTxt.fin {n : Bool} {X P : Nat} {E : Int} {l : List Nat} (h : ShTxt n X P E l) (hX2 : 2 ≤ X) (hbP : blen X ≤ P) :
    ∃ (fs de : List Nat) (k : Nat) (neg : Bool) (D : Int), fs.length = k + 1 ∧ DOrd fs ∧ (∀ d ∈ de, d < 10) ∧ 1 ≤ de.length ∧ de.length ≤ 4 ∧ D = (if neg then -(Nd de : Int) else (Nd de : Int)) ∧ -900 ≤ D ∧ D ≤ 900 ∧ l = sgn n ++ (mtx fs k ++ ptx neg de) ∧ ptx neg de = [101] ++ expTx D ∧
      ShFin (X * 2 ^ (P + 1 - blen X)) (E - (P + 1 - blen X : Nat)) (X * 2 ^ (P + 1 - blen X) / 2 % 2 = 0) (Nd fs) (k + 1) (D - k) := by
  obtain ⟨ds, x, ls, xl, us, xu, ds', x', a1, a2, a3, a4, b1, b2, rfl⟩ := h
  have hM4 : 4 ≤ X * 2 ^ (P + 1 - blen X) := by
    have h1 : 2 ^ 1 ≤ 2 ^ (P + 1 - blen X) := Nat.pow_le_pow_right (by decide) (by omega)
    have : 2 * 2 ≤ X * 2 ^ (P + 1 - blen X) := Nat.mul_le_mul hX2 (by omega)
    omega
  obtain ⟨c1, c2⟩ := short_final (a1.unshift (t := P + 1 - blen X)) a2 a3 hM4 a4
  have hb := a4.bnd a1.ord
  have hl := c1.1
  have hk : ds'.length = ds'.length - 1 + 1 := by omega
  obtain ⟨d1, d2, d3, d4⟩ := deOf_spec (a := (x' - 1).natAbs) (by omega)
  refine ⟨ds', deOf (x' - 1).natAbs, ds'.length - 1, decide (x' - 1 < 0), x' - 1, hk, c1, d3, d1, d2, ?_, by omega, by omega, by rw [eTx_eq hk], by unfold ptx expTx; rw [deOf_asc]; simp, ?_⟩
  · rw [d4]
    by_cases hx : x' - 1 < 0
    · rw [if_pos (by simpa using hx)]; omega
    · rw [if_neg (by simpa using hx)]; omega
  · rw [← hk]
    rw [show x' - 1 - ((ds'.length - 1 : Nat) : Int) = x' - ds'.length by omega]
    exact c2
theorem ShTxt.ne {n : Bool} {X P : Nat} {E : Int} {l : List Nat} (h : ShTxt n X P E l) : 0 < l.length := by
  obtain ⟨ds, x, ls, xl, us, xu, ds', x', a1, a2, a3, a4, b1, b2, rfl⟩ := h
  unfold eTx; simp; omega
/-- 'impl.Text' with format e and no precision, for what the law lets in. -/
theorem text_s (P M : Nat) (n : Bool) (A : Option Addr) (c : Nat) (l : List Nat) (E : Int) (w : World) (hr : RdU w A l) (hm : ∀ x ∈ l, x < WB) (hg : Glob w) (ho : RealOk 100 200 P M E l) (hX2 : 2 ≤ Vl l) :
    Calls Tryz.prog 24 #[.agg #[.int .u64 P, .int .i64 M, .int .i64 1, .bool n, .slice A l.length c, .int .i64 E], .int .u8 101, .int .i64 (-1)] w (TextOut (ShTxt n (Vl l) P E) w) := by
  obtain ⟨o1, o2, o3, o4, o5, o6, o7, o8, o9⟩ := ho
  have hX : Vl l < 2 ^ P := Nat.lt_of_lt_of_le (blen_spec o6).2.2 (Nat.pow_le_pow_right (by decide) o7)
  refine impl_Text_s 101 P M n A c l E (ShTxt n (Vl l) P E) w (by omega) hm hr (by omega) (by omega) (by omega) hX o6 (by omega) (by omega) hg (fun t ht => ht.ne) (fun base b xb xo m xc g0 g1 g2 => ?_)
  exact appendOk_s b base P M n (Vl l) E xb xo m xc hX2 o7 o2 o8 o9 g0 g1 g2
theorem eight_ten (j : Nat) : 2 ^ (3 * j) ≤ 10 ^ j := by
  rw [Nat.pow_mul]; exact Nat.pow_le_pow_left (by decide) j
/-- How large the shortest decimal is. -/
theorem ShFin.bounds {MM N k : Nat} {t e : Int} {inc : Prop} (h : ShFin MM t inc N (k + 1) e) (hk1 : 10 ^ k ≤ N) (hk2 : N < 10 ^ (k + 1)) (h4 : 4 ≤ MM) (hM : MM < 2 ^ 102) (ht1 : -302 ≤ t) (ht2 : t ≤ 200) : k ≤ 31 ∧ N < 10 ^ 32 ∧ -140 ≤ e ∧ e ≤ 140 := by
  obtain ⟨p1, p2, -, p4⟩ := h
  have hN : N < 10 ^ 32 := by
    by_cases hk : k = 0
    · subst hk
      exact Nat.lt_of_lt_of_le hk2 (ten_le (by decide))
    · obtain ⟨q1, q2⟩ := p4 (by omega)
      unfold dP dQ at q1 q2
      have ha : 0 < 2 ^ t.toNat * 10 ^ (-(e + 1)).toNat := Nat.mul_pos (Nat.two_pow_pos _) (ten_pos _)
      rw [Nat.mul_assoc, Nat.mul_assoc] at q1 q2
      generalize 10 ^ (e + 1).toNat * 2 ^ (-t).toNat = a at *
      generalize 2 ^ t.toNat * 10 ^ (-(e + 1)).toNat = b at *
      obtain ⟨K, rfl⟩ : ∃ K, MM = K + 1 := ⟨MM - 1, by omega⟩
      rw [Nat.add_sub_cancel] at q1
      rw [Nat.add_mul, Nat.add_mul, Nat.add_mul, Nat.one_mul, Nat.one_mul] at q2
      have h2 : 2 * b ≤ a := by omega
      have h3 : N / 10 * (2 * b) ≤ N / 10 * a := Nat.mul_le_mul_left _ h2
      have h4 : (N / 10 * 2) * b ≤ K * b := by rw [Nat.mul_assoc]; omega
      have h5 := Nat.le_of_mul_le_mul_right h4 ha
      have h6 : 10 * 2 ^ 101 + 10 ≤ 10 ^ 32 := by decide
      have h7 : (2 : Nat) ^ 102 = 2 * 2 ^ 101 := by decide
      omega
  have hk3 : k ≤ 31 := by
    have : k < 32 := (Nat.pow_lt_pow_iff_right (a := 10) (by decide)).1 (Nat.lt_of_le_of_lt hk1 hN)
    omega
  have hN0 : 0 < N := Nat.lt_of_lt_of_le (ten_pos k) hk1
  refine ⟨hk3, hN, ?_, ?_⟩
  · rcases Int.lt_or_le e (-140) with hlt | hge
    · exfalso
      unfold dP dQ at p1
      rw [show e.toNat = 0 by omega, Nat.pow_zero, Nat.mul_one] at p1
      obtain ⟨j, hj⟩ : ∃ j, j = (-e).toNat := ⟨_, rfl⟩
      rw [← hj] at p1
      have c1 : 1 * 1 * 10 ^ j ≤ (MM - 1) * 2 ^ t.toNat * 10 ^ j := Nat.mul_le_mul_right _ (Nat.mul_le_mul (by omega) (Nat.two_pow_pos _))
      have c2 : N * 2 ^ (-t).toNat ≤ 10 ^ 32 * 10 ^ 101 := Nat.mul_le_mul (Nat.le_of_lt hN) (Nat.le_trans (Nat.pow_le_pow_right (by decide) (show (-t).toNat ≤ 3 * 101 by omega)) (eight_ten 101))
      rw [← Nat.pow_add] at c2
      have c3 : 10 ^ (32 + 101) < 10 ^ j := Nat.pow_lt_pow_right (by decide) (by omega)
      omega
    · exact hge
  · rcases Int.lt_or_le 140 e with hlt | hge
    · exfalso
      unfold dP dQ at p2
      rw [show (-e).toNat = 0 by omega, Nat.pow_zero, Nat.mul_one] at p2
      obtain ⟨j, hj⟩ : ∃ j, j = e.toNat := ⟨_, rfl⟩
      rw [← hj] at p2
      have c1 : 1 * 10 ^ j * 1 ≤ N * 10 ^ j * 2 ^ (-t).toNat := Nat.mul_le_mul (Nat.mul_le_mul_right _ hN0) (Nat.two_pow_pos _)
      have c0 : (2 : Nat) ^ (3 * 34) = 2 ^ 102 := by decide
      have c2 : (MM + 1) * 2 ^ t.toNat ≤ 2 ^ (3 * 34) * 2 ^ (3 * 67) := Nat.mul_le_mul (by omega) (Nat.pow_le_pow_right (by decide) (by omega))
      have c4 : 2 ^ (3 * 34) * 2 ^ (3 * 67) ≤ 10 ^ 34 * 10 ^ 67 := Nat.mul_le_mul (eight_ten 34) (eight_ten 67)
      rw [← Nat.pow_add 10] at c4
      have c3 : 10 ^ (34 + 67) < 10 ^ j := Nat.pow_lt_pow_right (by decide) (by omega)
      omega
    · exact hge
theorem figs_of {fs : List Nat} {k : Nat} (hd : ∀ d ∈ fs, d < 10) (h : fs.length = k + 1) : mtx fs k = ptext (Nd fs) (k + 1) k := by
  have e := digs_of fs hd
  rw [h] at e
  unfold mtx ptext
  rw [← e, show k + 1 - k = 1 by omega]
/-- All that the law asks of the shortest text. -/
theorem ShTxt.pack {n : Bool} {X P : Nat} {E : Int} {l : List Nat} (h : ShTxt n X P E l) (hX0 : 2 ^ (blen X - 1) < X) (hbP : blen X ≤ P) (hP : P ≤ 100) (hE1 : -200 ≤ E) (hE2 : E ≤ 200) :
    ∃ (fs de : List Nat) (k N : Nat) (neg : Bool) (D e t : Int), fs.length = k + 1 ∧ (∀ d ∈ fs, d < 10) ∧ (∀ d ∈ de, d < 10) ∧ 0 < de.length ∧ de.length ≤ 4 ∧ D = (if neg then -(Nd de : Int) else (Nd de : Int)) ∧ l = sgn n ++ (mtx fs k ++ ptx neg de) ∧
      l = figTx n N k D (k + 1) ∧ FigLen N (k + 1) k ∧ FigLen N (k + 1) 0 ∧ Nd fs = N ∧ N ≠ 0 ∧ N < 65536 ^ 20 ∧ k ≤ 31 ∧ e = D - k ∧ -140 ≤ e ∧ e ≤ 140 ∧ t = E + blen X - P - 1 ∧
      (∀ k' : Nat, P + 2 + blen (10 ^ (-e).toNat) ≤ blen (N * 10 ^ e.toNat) + k' → ∃ s : Nat, (s : Int) = t + k' + 2 ∧ 3 ≤ s ∧ blen (stq (N * 10 ^ e.toNat * 2 ^ k') (10 ^ (-e).toNat)) = P + s ∧ rhe (stq (N * 10 ^ e.toNat * 2 ^ k') (10 ^ (-e).toNat)) s = X * 2 ^ (P - blen X)) ∧
      (0 < k → OutOf X E t (N / 10) (e + 1) ∧ OutOf X E t (N / 10 + 1) (e + 1)) := by
  have hX1 : X ≠ 0 := Nat.ne_of_gt (Nat.lt_of_le_of_lt (Nat.zero_le _) hX0)
  have hb1 := (blen_spec hX1).2.2
  have hb0 : 1 ≤ blen X := (blen_spec hX1).1
  have hX2 : 2 ≤ X := by have := Nat.two_pow_pos (blen X - 1); omega
  obtain ⟨fs, de, k, neg, D, a1, a2, a3, a4, a5, a6, a7, a8, a9, a10, a11⟩ := h.fin hX2 hbP
  obtain ⟨G, hG⟩ : ∃ G, G = P + 1 - blen X := ⟨_, rfl⟩
  rw [← hG] at a11
  obtain ⟨m0, hm0⟩ : ∃ m0, m0 = X * 2 ^ (P - blen X) := ⟨_, rfl⟩
  have hMM : X * 2 ^ G = 2 * m0 := by rw [hm0, hG, show P + 1 - blen X = (P - blen X) + 1 by omega, Nat.pow_succ]; grind
  have hm1 : 2 ^ (P - 1) < m0 := by
    have : 2 ^ (blen X - 1) * 2 ^ (P - blen X) < X * 2 ^ (P - blen X) := Nat.mul_lt_mul_of_pos_right hX0 (Nat.two_pow_pos _)
    rw [← Nat.pow_add, show blen X - 1 + (P - blen X) = P - 1 by omega] at this
    omega
  have hm2 : m0 < 2 ^ P := by
    have : X * 2 ^ (P - blen X) < 2 ^ blen X * 2 ^ (P - blen X) := Nat.mul_lt_mul_of_pos_right hb1 (Nat.two_pow_pos _)
    rw [← Nat.pow_add, show blen X + (P - blen X) = P by omega] at this
    omega
  obtain ⟨t, ht⟩ : ∃ t : Int, t = E - (G : Int) := ⟨_, rfl⟩
  have ht' : t = E + blen X - P - 1 := by omega
  obtain ⟨e, he⟩ : ∃ e : Int, e = D - k := ⟨_, rfl⟩
  rw [← ht, ← he] at a11
  obtain ⟨N, hN⟩ : ∃ N, N = Nd fs := ⟨_, rfl⟩
  rw [← hN] at a11
  have hn1 := Nd_ge a2.1 a2.2.1
  have hn2 := Nd_lt fs a2.2.2.2
  rw [a1, ← hN] at hn1 hn2
  rw [Nat.add_sub_cancel] at hn1
  have hN0 : N ≠ 0 := by have := ten_pos k; omega
  have h2P : 2 ^ P ≤ 2 ^ 100 := Nat.pow_le_pow_right (by decide) hP
  have hM4 : 4 ≤ X * 2 ^ G := by
    have h1 : 2 ^ 1 ≤ 2 ^ G := Nat.pow_le_pow_right (by decide) (by omega)
    have : 2 * 2 ≤ X * 2 ^ G := Nat.mul_le_mul hX2 (by omega)
    omega
  have h102 : (2 : Nat) ^ 102 = 4 * 2 ^ 100 := by decide
  obtain ⟨b1, b2, b3, b4⟩ := a11.bounds hn1 hn2 hM4 (by omega) (by omega) (by omega)
  have hT : l = figTx n N k D (k + 1) := by
    rw [a9, a10]
    unfold figTx
    rw [figs_of a2.2.2.2 a1, ← hN]
    simp [List.append_assoc]
  refine ⟨fs, de, k, N, neg, D, e, t, a1, a2.2.2.2, a3, by omega, a5, a6, a9, hT, ⟨hn2, by omega, .inl rfl⟩, ⟨hn2, by omega, ?_⟩, hN.symm, hN0, Nat.lt_trans b2 (by decide), b1, he, b3, b4, ht', fun k' hk' => ?_, fun hk => ?_⟩
  · right; rw [Nat.add_sub_cancel]; exact hn1
  · obtain ⟨p1, p2, p3, -⟩ := a11
    rw [hMM] at p1 p2 p3
    rw [← hm0]
    refine round_back (m0 := m0) (by omega) hm1 hm2 p1 p2 (fun hodd => p3 (by omega)) (Nat.mul_ne_zero hN0 (Nat.ne_of_gt (ten_pos _))) hk'
  · obtain ⟨-, -, -, p4⟩ := a11
    obtain ⟨q1, q2⟩ := p4 (by omega)
    exact ⟨outOf_low (g := G) (by omega) rfl (by omega) q1, outOf_high (g := G) (by omega) rfl q2⟩
end Go.Proofs.YtacfhndledcmgaaGreatDoor
