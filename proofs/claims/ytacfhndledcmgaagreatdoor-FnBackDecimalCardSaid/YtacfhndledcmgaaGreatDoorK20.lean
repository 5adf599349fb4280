/- Lemmas for the law FnBackDecimal: Append with format e and no precision. Conditions: those in each theorem; none besides. -/
import Derived.Test.YtacfhndledcmgaaGreatDoorK16
import Derived.Test.YtacfhndledcmgaaGreatDoorK19
set_option linter.unusedVariables false
set_option linter.unusedSimpArgs false
namespace Go.Proofs.YtacfhndledcmgaaGreatDoor
open Go.RowKit
/-- The shortest decimal has no more figures than the whole one, and its exponent lies by it. -/
theorem ShAll.bnd {ds ls us ds' : List Nat} {x x' : Int} {inc : Prop} (ho : DOrd ds) (h : ShAll ds ls us x inc ds' x') : DOrd ds' ∧ ds'.length ≤ ds.length ∧ x ≤ x' ∧ x' ≤ x + 1 := by
  obtain ⟨i, -, -, ⟨-, rfl, rfl⟩ | ⟨h1, h2, h3, T, e, h4, h5, h6⟩⟩ := h
  · exact ⟨ho, Nat.le_refl _, by omega, by omega⟩
  · have g1 := dp_floor ho.2.2.2 (i := 1) (r := i + 1) (by omega)
    rw [dp_one, Nat.add_sub_cancel] at g1
    have g2 : 1 * 10 ^ i ≤ ds.getD 0 0 * 10 ^ i := Nat.mul_le_mul_right _ (Nat.pos_of_ne_zero ho.2.1)
    have g3 := dp_lt ho.2.2.2 (i + 1)
    have g4 : 10 ^ i ≤ T ∧ T ≤ 10 ^ (i + 1) := by rcases h6 with ⟨h, _⟩ | ⟨h, _⟩ <;> omega
    have k1 := Nd_lt ds' h2.2.2.2
    have k2 := Nd_ge h2.1 h2.2.1
    have k3 : 10 ^ i < 10 ^ (ds'.length + e) := by
      rw [Nat.pow_add]
      exact Nat.lt_of_le_of_lt (h4 ▸ g4.1) (Nat.mul_lt_mul_of_pos_right k1 (ten_pos e))
    have k4 : 10 ^ (ds'.length - 1 + e) ≤ 10 ^ (i + 1) := by
      rw [Nat.pow_add]
      exact Nat.le_trans (Nat.mul_le_mul_right _ k2) (h4 ▸ g4.2)
    have k5 := (Nat.pow_lt_pow_iff_right (by decide)).1 k3
    have k6 := (Nat.pow_le_pow_iff_right (by decide)).1 k4
    have := h2.1
    exact ⟨h2, by omega, by omega, by omega⟩
/-- The text of format e with as many figures as the value wants. -/
def ShOut (Y : Nat) (sh : Int) (MM : Nat) (t : Int) (l : List Nat) : Prop :=
  ∃ ds x ls xl us xu ds' x', DecPure Y sh ds x ∧ DecPure (MM - 1) t ls xl ∧ DecPure (MM + 1) t us xu ∧ ShAll ds ls us x (MM / 2 % 2 = 0) ds' x' ∧ l = eTx ds' x' (ds'.length - 1)
set_option maxRecDepth 100000 in
set_option maxHeartbeats 4000000 in
theorem append_s (buf : Value) (pre : List Nat) (base b P M : Nat) (n : Bool) (X : Nat) (E : Int) (xb xo m xc G MM : Nat) (t : Int) (w : World) (hb : Ls .u8 256 w buf pre) (hx : FlX w base b P M n X E xb xo m xc) (hpre : pre.length ≤ 500) (hm : m ≤ 300)
    (hE1 : -200 ≤ E) (hE2 : E ≤ 200) (hG : G = P + 1 - blen X) (ht : t = E - G) (hM : MM = X * 2 ^ G) (hX2 : 2 ≤ X) (hbP : blen X ≤ P) (hP : P ≤ 100) (hbb : ∀ y o, Fp buf y o → y ≠ b ∧ y ≠ xb) (hg : Glob w) (hSm : Small (upTo X m * 2 ^ (shOf X m E).toNat)) (hxb : ∀ ds x, DecPure (upTo X m) (shOf X m E) ds x → -800 ≤ x ∧ x ≤ 800) (hI : ∀ A, A ≠ 0 → A ≤ upTo X m * 2 ^ (shOf X m E).toNat → ItoaOk A) :
    Calls Tryz.prog 125 #[.pointer (some ⟨b, 0, none⟩), buf, .int .u8 101, .int .i64 (-1)] w fun e w' => ∃ r, e = .returned r ∧ ∃ l, ShOut (upTo X m) (shOf X m E) MM t l ∧ App .u8 256 w w' buf r (pre ++ sgn n ++ l) := by
  have h17 := hg.size
  have HMM := Lib.hid (And.intro hG (And.intro ht (And.intro hM (And.intro hX2 hbP))))
  clear hG ht hM hX2 hbP
  obtain ⟨c0, c1, c2, c3, c4, c5, c6, -, -, -, -, -⟩ := hx.fl
  have A0 := Lib.hid (App.refl hb)
  go_enter Tryz.func125, Tryz.ntmps125
  go_upto_if 16 with fail
  go_cut [1] (fun zv wx => ∃ pre', Hid (App .u8 256 w wx buf zv pre') ∧ Hid (pre' = pre ++ sgn n))
  case first =>
    cases n
    · go_wp2_with fail
      go_meet
      exact ⟨pre, A0, Lib.hid (by simp [sgn])⟩
    · go_wp2_with (refine wpList_app1 (w0 := w) (z0 := buf) (l := pre) (c := 45) rfl (.tmp 17) (.tmp 18) rfl rfl rfl A0.out (by omega) (by omega) h17 ?_; intro r w2 ha; have HA := Lib.hid ha; clear ha)
      go_meet
      exact ⟨pre ++ [45], HA, Lib.hid (by simp [sgn])⟩
  case rest =>
    obtain ⟨pre', HA, HP⟩ := hcut
    generalize wc = wa at *
    have hx1 := hx.chg HA.out.chg (fun o f => (hbb _ _ f).1 rfl) (fun o f => (hbb _ _ f).2 rfl)
    have hlt := hx1.fl.lt
    have hX0 := hx1.X0
    have hbl := blen_upTo hX0 hx1.m0 hx1.hi
    have hblX := hx1.hi
    have hblo := hx1.lo
    obtain ⟨bX, hbX⟩ : ∃ bX, bX = blen X := ⟨_, rfl⟩
    obtain ⟨bM, hbM⟩ : ∃ bM, bM = 64 * m := ⟨_, rfl⟩
    obtain ⟨sh, hsh⟩ : ∃ sh : Int, sh = (bX : Int) + E - (bM : Int) := ⟨_, rfl⟩
    have hsh2 : sh = shOf X m E := by unfold shOf; rw [hsh, hbX, hbM]
    have ib1 : bX ≤ 20000 := by omega
    have ib2 : bM ≤ 20000 := by omega
    have esh : (bX : Int) + E - (bM : Int) = sh := hsh.symm
    have ew1 : IntKind.i64.wrap ((bX : Int) + E) = (bX : Int) + E := IntWalk.i64_in _ (by omega)
    have ew2 : IntKind.i64.wrap sh = sh := IntWalk.i64_in _ (by omega)
    obtain ⟨c0, c1, c2, c3, c4, c5, c6, -, -, -, -, -⟩ := hx1.fl
    rw [← hbX] at c6
    have hgW : Glob wa := ⟨Nat.le_trans hg.size HA.out.chg.size, fun bb oo v e => (HA.out.chg.cell bb oo (Nat.lt_of_lt_of_le (gcell_lt e) hg.size) (fun f => by have := (hb.fp_lt f).2; have := gcell_lt e; omega)).trans (hg.cell bb oo v e)⟩
    have hbwc := fun y o (f : Fp buf y o) => (hb.fp_lt f).1
    have HW : Hid (∀ W, W = wa.alloc (.cells #[.slice none 0 0, .int .i64 0] 235) → (∀ j, Calls Tryz.prog 194 #[.slice (some ⟨xb, xo, none⟩) m xc] (W.drewN j) fun e w' => e = .returned (.int .i64 bM) ∧ ∃ j, w' = W.drewN j) ∧
        (∀ j, Calls Tryz.prog 193 #[.pointer (some ⟨wa.heap.size, 0, none⟩), .slice (some ⟨xb, xo, none⟩) m xc, .int .i64 sh] (W.drewN j) fun e w' => e = .returned (.tuple #[]) ∧ ∃ xb' xo' xc' ds x, DecIs w' wa.heap.size (upTo X m) sh xb' xo' xc' ds x ∧ wa.heap.size < xb' ∧ Chg No wa w')) := Lib.hid (by
      rintro W rfl
      have hk := (Chg.refl No wa).alloc (.cells #[.slice none 0 0, .int .i64 0] 235)
      have hnW := hx1.nt.chg hk (fun _ _ f => f)
      have hsmall : Small (upTo X m) := small_le hSm (Nat.le_mul_of_pos_right _ (Nat.two_pow_pos _))
      refine ⟨fun j => ?_, fun j => ?_⟩
      · have := nat_bitLen_d _ _ _ hnW.nt hsmall j
        rw [hbl, ← hbM] at this
        exact this
      · have hy0 : upTo X m ≠ 0 := by have := upTo_ge hX0 hx1.hi; have := Nat.two_pow_pos (64 * m - 1); omega
        have hs17 : 17 ≤ wa.heap.size := hgW.size
        refine (dec_init wa.heap.size xb xo m xc (upTo X m) sh ((wa.alloc (.cells #[.slice none 0 0, .int .i64 0] 235)).drewN j) (hnW.drewN j) hx1.m0 (by omega) hy0 (World.cell?_alloc_new _ _ _ _) (World.cell?_alloc_new _ _ _ _) (Plain.new _ _ _) hs17 ((hgW.no hk).drewN j) (by omega) (by omega) (by rw [hsh2]; exact hSm) (by rw [hsh2]; exact hI)).mono ?_
        rintro e w' ⟨h1, xb', xo', xc', ds, x, h2, h3, h4⟩
        refine ⟨h1, xb', xo', xc', ds, x, h2, ?_, (hk.drewN j).then h4 (fun y o hy f => ?_)⟩
        · have h5 : (wa.alloc (.cells #[.slice none 0 0, .int .i64 0] 235)).heap.size ≤ xb' := h3
          rw [hsz] at h5; omega
        · exact absurd f (Nat.ne_of_lt hy))
    have HSH := Lib.hid hsh2
    clear hbX hbM hsh hsh2 hbl hblX hX0 hblo
    go_upto_if 56 with fail
    generalize hWe : wa.alloc (.cells #[.slice none 0 0, .int .i64 0] 235) = W
    obtain ⟨H4, H3⟩ := HW.out W hWe.symm
    have H4 := Lib.hid H4
    have H3 := Lib.hid H3
    have k6 : Chg No wa W := by rw [← hWe]; exact (Chg.refl No wa).alloc _
    have d5 := (k6.cell b 5 hlt (fun f => f)).trans c5
    have d6 := (k6.cell b 6 hlt (fun f => f)).trans c6
    have d4 := (k6.cell b 4 hlt (fun f => f)).trans c4
    clear HW k6 hWe c5 c6
    go_cut [9] (fun dv wx => dv = .pointer (some ⟨wa.heap.size, 0, none⟩) ∧ ∃ (yb yo yc : Nat) (ds : List Nat) (x : Int), Hid (DecIs wx wa.heap.size (upTo X m) sh yb yo yc ds x) ∧ Hid (wa.heap.size < yb) ∧ Hid (Chg No wa wx))
    case first =>
      go_wp2_with fail
      go_region_with (first
        | (go_at_call 194; refine (H4.out _).mono ?_; rintro e w2 ⟨rfl, j, rfl⟩)
        | (go_at_call 193; (with_reducible refine (H3.out _).mono ?_); rintro e w3 ⟨rfl, yb, yo, yc, ds, x, hd1, hd2, hd3⟩; have HD1 := Lib.hid hd1; have HD2 := Lib.hid hd2; have HD3 := Lib.hid hd3; clear hd1 hd2 hd3))
      all_goals (go_wp2_with fail; go_meet; exact ⟨rfl, yb, yo, yc, ds, x, HD1, HD2, HD3⟩)
    case rest =>
      obtain ⟨rfl, yb, yo, yc, ds, x, HD1, HD2, HD3⟩ := hcut
      have hgc := hgW.no HD3.out
      have hds := HD1.out
      obtain ⟨g1, g2, g3, g4, g5, g6, g7, g8⟩ := hds
      have HAc := Lib.hid (HA.out.no HD3.out)
      have hd4 := (HD3.out.cell b 4 hlt (fun f => f)).trans c4
      have hub : ∀ y o, Fp u1 y o → y < wa.heap.size := fun y o f => (HA.out.ls.fp_lt f).1
      have hord : DOrd ds := ⟨g3, g4, g5, g1.d10⟩
      have hxc := hx1.chg HD3.out (fun _ f => f) (fun _ f => f)
      have HR := Lib.hid (dec_roundShortest _ yb yo yc ds x base b P M n X E t G MM xb xo m xc wc g1 hord g6 g7 g8 hxc hgc HMM.out.1 HMM.out.2.1 HMM.out.2.2.1 HMM.out.2.2.2.1 HMM.out.2.2.2.2 hP hE1 hE2)
      have HOrd := Lib.hid hord
      clear g1 g2 g3 g4 g5 g6 g7 g8 hord hxc
      go_wp2_with fail
      refine HR.out.mono ?_
      rintro e w5 ⟨rfl, ds', x', ls, us, xl, xu, hl1, hu1, hall, hd, hk5⟩
      have HAll := Lib.hid (And.intro hl1 (And.intro hu1 hall))
      have hbnd := hall.bnd HOrd.out
      have hsz5 := HA.out.chg.size
      have HA5 := Lib.hid (HAc.out.step hk5 (fun y o f g => by
        have := hub y o g
        rcases f with f | f
        · omega
        · have := HD2.out; omega) (fun y o hy f => by
        rcases f with f | f
        · omega
        · have := HD2.out; omega))
      have hpl : pre'.length ≤ 501 := by rw [HP.out]; cases n <;> simp [sgn] <;> omega
      obtain ⟨i1, i2, i3, i4, i5, i6, i7, i8⟩ := HD1.out
      have hxx := hxb ds x ⟨by rw [← HSH.out]; exact i2, i3, i4, i5, i1.d10, i7, i8⟩
      have hg5 : Glob w5 := hgc.chg hk5 (fun y o f => by
        rcases f with f | f
        · have := hgW.size; omega
        · have := HD2.out; have := hgW.size; omega)
      have hd0 := hbnd.1.1
      obtain ⟨k, hk⟩ : ∃ k, ds'.length = k + 1 := ⟨ds'.length - 1, by omega⟩
      have HF := dec_fmtE u1 pre' k yb yo yc _ ds' x' w5 HA5.out.ls hd (by omega) (by omega) (by omega) (by omega) (by omega) (fun y o f => by have := hub y o f; have := HD2.out; omega) hbnd.1.1 hg5
      have e0 := hd.c0
      have e1 := hd.c1
      rw [hk] at HF e0
      have HF := Lib.hid HF
      have HK := Lib.hid hk
      have hkk : ((k + 1 : Nat) : Int) - 1 = (k : Int) := by omega
      have hkb : k ≤ 100000 := by omega
      clear hd hk5 hpl hxx hg5 i1 i2 i3 i4 i5 i6 i7 i8 hl1 hu1 hall hbnd hk hd0
      go_wp2_with fail
      refine HF.out.mono ?_
      rintro e w6 ⟨r, rfl, ha⟩
      have HA6 := Lib.hid (HA5.out.trans ha)
      clear ha
      go_wp2_with fail
      go_ret
      obtain ⟨i1, i2, i3, i4, i5, i6, i7, i8⟩ := HD1.out
      refine ⟨r, rfl, _, ⟨ds, x, ls, xl, us, xu, ds', x', ⟨by rw [← HSH.out]; exact i2, i3, i4, i5, i1.d10, i7, i8⟩, HAll.out.1, HAll.out.2.1, HAll.out.2.2, rfl⟩, ?_⟩
      rw [← HP.out, HK.out]; exact HA6.out
end Go.Proofs.YtacfhndledcmgaaGreatDoor
