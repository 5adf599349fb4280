/- Lemmas for the law FnScientific: format e: Append. Conditions: those in each theorem; none besides. -/
import Derived.Test.YtacfhndledcmgaaGreatDoorG2
set_option linter.unusedVariables false
set_option linter.unusedSimpArgs false
namespace Go.Proofs.YtacfhndledcmgaaGreatDoor
open Go.RowKit
/-- The text of format e: of the value's figures, rounded to 1 + k of them. -/
def SciOut (Y : Nat) (sh : Int) (k : Nat) (l : List Nat) : Prop :=
  ∃ ds x ds' x', DecPure Y sh ds x ∧ RoundAny ds x (1 + k) ds' x' ∧ (∀ d ∈ ds', d < 10) ∧ 0 < ds'.length ∧ ds'.getD 0 0 ≠ 0 ∧ l = eTx ds' x' k
/-- At one figure or more something is left. -/
theorem RoundAny.pos {ds ds' : List Nat} {x x' : Int} {k : Nat} (h : RoundAny ds x (1 + k) ds' x') (h0 : 0 < ds.length) (hh : ds.getD 0 0 ≠ 0) : 0 < ds'.length ∧ ds'.getD 0 0 ≠ 0 ∧ x ≤ x' ∧ x' ≤ x + 1 := by
  rcases h with ⟨_, rfl, rfl⟩ | ⟨n, hn, hnl, T, hT, hcase⟩
  · exact ⟨h0, hh, Int.le_refl _, by omega⟩
  · rcases hcase with ⟨rfl, _, _⟩ | ⟨_, h1, h2, h3, _, h4, h5, _⟩
    · exfalso
      obtain ⟨h1, h2⟩ := hT
      have h3 := Nd_ge h0 hh
      have h4 : 10 ^ (ds.length - n) ≤ 10 ^ (ds.length - 1) := Nat.pow_le_pow_right (by decide) (by omega)
      have h5 : 0 < 10 ^ (ds.length - n) := Nat.pow_pos (by decide)
      omega
    · exact ⟨h1, h3, h4, h5⟩
set_option maxRecDepth 100000 in
set_option maxHeartbeats 4000000 in
theorem append_e (buf : Value) (pre : List Nat) (base b P M : Nat) (n : Bool) (X : Nat) (E : Int) (xb xo m xc k : Nat) (w : World) (hb : Ls .u8 256 w buf pre) (hx : FlX w base b P M n X E xb xo m xc) (hpre : pre.length ≤ 500) (hk : k ≤ 100000) (hm : m ≤ 300)
    (hE1 : -18000 ≤ E) (hE2 : E ≤ 18000) (hbb : ∀ y o, Fp buf y o → y ≠ b ∧ y ≠ xb) (hg : Glob w) (hSm : Small (upTo X m * 2 ^ (shOf X m E).toNat)) (hxb : ∀ ds x, DecPure (upTo X m) (shOf X m E) ds x → -800 ≤ x ∧ x ≤ 800) (hI : ∀ A, A ≠ 0 → A ≤ upTo X m * 2 ^ (shOf X m E).toNat → ItoaOk A) :
    Calls Tryz.prog 125 #[.pointer (some ⟨b, 0, none⟩), buf, .int .u8 101, .int .i64 k] w fun e w' => ∃ r, e = .returned r ∧ ∃ l, SciOut (upTo X m) (shOf X m E) k l ∧ App .u8 256 w w' buf r (pre ++ sgn n ++ l) := by
  have h17 := hg.size
  obtain ⟨c0, c1, c2, c3, c4, c5, c6, -, -, -, -, -⟩ := hx.fl
  have A0 := Lib.hid (App.refl hb)
  go_enter Tryz.func125, Tryz.ntmps125
  go_upto_if 16 with fail
  go_cut [1] (fun zv wx => ∃ pre', Hid (App .u8 256 w wx buf zv pre') ∧ Hid (pre' = pre ++ sgn n))
  case first =>
    cases n
    · go_wp2_with fail
      go_meet
      exact ⟨pre, A0, Lib.hid (by simp [sgn])⟩
    · go_wp2_with (refine wpList_app1 (w0 := w) (z0 := buf) (l := pre) (c := 45) rfl (.tmp 17) (.tmp 18) rfl rfl rfl A0.out (by omega) (by omega) h17 ?_; intro r w2 ha; have HA := Lib.hid ha; clear ha)
      go_meet
      exact ⟨pre ++ [45], HA, Lib.hid (by simp [sgn])⟩
  case rest =>
    obtain ⟨pre', HA, HP⟩ := hcut
    generalize wc = wa at *
    have hx1 := hx.chg HA.out.chg (fun o f => (hbb _ _ f).1 rfl) (fun o f => (hbb _ _ f).2 rfl)
    have hlt := hx1.fl.lt
    have hX0 := hx1.X0
    have hbl := blen_upTo hX0 hx1.m0 hx1.hi
    have hblX := hx1.hi
    have hblo := hx1.lo
    obtain ⟨bX, hbX⟩ : ∃ bX, bX = blen X := ⟨_, rfl⟩
    obtain ⟨bM, hbM⟩ : ∃ bM, bM = 64 * m := ⟨_, rfl⟩
    obtain ⟨sh, hsh⟩ : ∃ sh : Int, sh = (bX : Int) + E - (bM : Int) := ⟨_, rfl⟩
    have hsh2 : sh = shOf X m E := by unfold shOf; rw [hsh, hbX, hbM]
    have ib1 : bX ≤ 20000 := by omega
    have ib2 : bM ≤ 20000 := by omega
    have esh : (bX : Int) + E - (bM : Int) = sh := hsh.symm
    have ew1 : IntKind.i64.wrap ((bX : Int) + E) = (bX : Int) + E := IntWalk.i64_in _ (by omega)
    have ew2 : IntKind.i64.wrap sh = sh := IntWalk.i64_in _ (by omega)
    obtain ⟨c0, c1, c2, c3, c4, c5, c6, -, -, -, -, -⟩ := hx1.fl
    rw [← hbX] at c6
    have hgW : Glob wa := ⟨Nat.le_trans hg.size HA.out.chg.size, fun bb oo v e => (HA.out.chg.cell bb oo (Nat.lt_of_lt_of_le (gcell_lt e) hg.size) (fun f => by have := (hb.fp_lt f).2; have := gcell_lt e; omega)).trans (hg.cell bb oo v e)⟩
    have hbwc := fun y o (f : Fp buf y o) => (hb.fp_lt f).1
    have HW : Hid (∀ W, W = wa.alloc (.cells #[.slice none 0 0, .int .i64 0] 235) → (∀ j, Calls Tryz.prog 194 #[.slice (some ⟨xb, xo, none⟩) m xc] (W.drewN j) fun e w' => e = .returned (.int .i64 bM) ∧ ∃ j, w' = W.drewN j) ∧
        (∀ j, Calls Tryz.prog 193 #[.pointer (some ⟨wa.heap.size, 0, none⟩), .slice (some ⟨xb, xo, none⟩) m xc, .int .i64 sh] (W.drewN j) fun e w' => e = .returned (.tuple #[]) ∧ ∃ xb' xo' xc' ds x, DecIs w' wa.heap.size (upTo X m) sh xb' xo' xc' ds x ∧ wa.heap.size < xb' ∧ Chg No wa w')) := Lib.hid (by
      rintro W rfl
      have hk := (Chg.refl No wa).alloc (.cells #[.slice none 0 0, .int .i64 0] 235)
      have hnW := hx1.nt.chg hk (fun _ _ f => f)
      have hsmall : Small (upTo X m) := small_le hSm (Nat.le_mul_of_pos_right _ (Nat.two_pow_pos _))
      refine ⟨fun j => ?_, fun j => ?_⟩
      · have := nat_bitLen_d _ _ _ hnW.nt hsmall j
        rw [hbl, ← hbM] at this
        exact this
      · have hy0 : upTo X m ≠ 0 := by have := upTo_ge hX0 hx1.hi; have := Nat.two_pow_pos (64 * m - 1); omega
        have hs17 : 17 ≤ wa.heap.size := hgW.size
        refine (dec_init wa.heap.size xb xo m xc (upTo X m) sh ((wa.alloc (.cells #[.slice none 0 0, .int .i64 0] 235)).drewN j) (hnW.drewN j) hx1.m0 (by omega) hy0 (World.cell?_alloc_new _ _ _ _) (World.cell?_alloc_new _ _ _ _) (Plain.new _ _ _) hs17 ((hgW.no hk).drewN j) (by omega) (by omega) (by rw [hsh2]; exact hSm) (by rw [hsh2]; exact hI)).mono ?_
        rintro e w' ⟨h1, xb', xo', xc', ds, x, h2, h3, h4⟩
        refine ⟨h1, xb', xo', xc', ds, x, h2, ?_, (hk.drewN j).then h4 (fun y o hy f => ?_)⟩
        · have h5 : (wa.alloc (.cells #[.slice none 0 0, .int .i64 0] 235)).heap.size ≤ xb' := h3
          rw [hsz] at h5; omega
        · exact absurd f (Nat.ne_of_lt hy))
    have HSH := Lib.hid hsh2
    clear hbX hbM hsh hsh2 hbl hblX hX0 hblo
    go_upto_if 56 with fail
    generalize hWe : wa.alloc (.cells #[.slice none 0 0, .int .i64 0] 235) = W
    obtain ⟨H4, H3⟩ := HW.out W hWe.symm
    have H4 := Lib.hid H4
    have H3 := Lib.hid H3
    have k6 : Chg No wa W := by rw [← hWe]; exact (Chg.refl No wa).alloc _
    have d5 := (k6.cell b 5 hlt (fun f => f)).trans c5
    have d6 := (k6.cell b 6 hlt (fun f => f)).trans c6
    have d4 := (k6.cell b 4 hlt (fun f => f)).trans c4
    clear HW k6 hWe c5 c6
    go_cut [9] (fun dv wx => dv = .pointer (some ⟨wa.heap.size, 0, none⟩) ∧ ∃ (yb yo yc : Nat) (ds : List Nat) (x : Int), Hid (DecIs wx wa.heap.size (upTo X m) sh yb yo yc ds x) ∧ Hid (wa.heap.size < yb) ∧ Hid (Chg No wa wx))
    case first =>
      go_wp2_with fail
      go_region_with (first
        | (go_at_call 194; refine (H4.out _).mono ?_; rintro e w2 ⟨rfl, j, rfl⟩)
        | (go_at_call 193; (with_reducible refine (H3.out _).mono ?_); rintro e w3 ⟨rfl, yb, yo, yc, ds, x, hd1, hd2, hd3⟩; have HD1 := Lib.hid hd1; have HD2 := Lib.hid hd2; have HD3 := Lib.hid hd3; clear hd1 hd2 hd3))
      all_goals (go_wp2_with fail; go_meet; exact ⟨rfl, yb, yo, yc, ds, x, HD1, HD2, HD3⟩)
    case rest =>
      obtain ⟨rfl, yb, yo, yc, ds, x, HD1, HD2, HD3⟩ := hcut
      have hgc := hgW.no HD3.out
      have hds := HD1.out
      obtain ⟨g1, g2, g3, g4, g5, g6, g7, g8⟩ := hds
      have HAc := Lib.hid (HA.out.no HD3.out)
      have hd4 := (HD3.out.cell b 4 hlt (fun f => f)).trans c4
      have b0 := g1.c0
      have b1 := g1.c1
      have hub : ∀ y o, Fp u1 y o → y < wa.heap.size := fun y o f => (HA.out.ls.fp_lt f).1
      have HR := Lib.hid (dec_round_any _ yb yo yc ds x (1 + k) wc g1 (by omega) g4 (by omega) (by omega))
      have hx8 := g8
      have hx7 := g7
      clear g2 g3 g4 g5 g6 g1
      go_wp2_with fail
      refine HR.out.mono ?_
      rintro e w5 ⟨rfl, ds', x', hr, hd, hk5⟩
      obtain ⟨f1, f2, f3, f4⟩ := hr.facts HD1.out.2.2.1
      have hsz5 := HA.out.chg.size
      have HA5 := Lib.hid (HAc.out.step hk5 (fun y o f g => by
        have := hub y o g
        rcases f with f | f
        · omega
        · have := HD2.out; omega) (fun y o hy f => by
        rcases f with f | f
        · omega
        · have := HD2.out; omega))
      have hpl : pre'.length ≤ 501 := by rw [HP.out]; cases n <;> simp [sgn] <;> omega
      obtain ⟨i1, i2, i3, i4, i5, i6, i7, i8⟩ := HD1.out
      have hpos := hr.pos i3 i4
      have hxx := hxb ds x ⟨by rw [← HSH.out]; exact i2, i3, i4, i5, i1.d10, i7, i8⟩
      have hg5 : Glob w5 := hgc.chg hk5 (fun y o f => by
        rcases f with f | f
        · have := hgW.size; omega
        · have := HD2.out; have := hgW.size; omega)
      have HF := Lib.hid (dec_fmtE u1 pre' k yb yo yc _ ds' x' w5 HA5.out.ls hd (by omega) (by omega) (by have := HD1.out.2.2.2.2.2.1; omega) (by omega) (by omega) (fun y o f => by have := hub y o f; have := HD2.out; omega) hpos.1 hg5)
      have e0 := hd.c0
      have e1 := hd.c1
      have HRA := Lib.hid hr
      have HD10 := Lib.hid hd.d10
      have HPos := Lib.hid hpos
      clear hr hd hk5 f1 f2 f3 f4 hpl hpos hxx hg5 i1 i2 i3 i4 i5 i6 i7 i8
      go_wp2_with fail
      refine HF.out.mono ?_
      rintro e w6 ⟨r, rfl, ha⟩
      have HA6 := Lib.hid (HA5.out.trans ha)
      clear ha
      go_wp2_with fail
      go_ret
      obtain ⟨i1, i2, i3, i4, i5, i6, i7, i8⟩ := HD1.out
      refine ⟨r, rfl, _, ⟨ds, x, ds', x', ⟨by rw [← HSH.out]; exact i2, i3, i4, i5, i1.d10, i7, i8⟩, HRA.out, HD10.out, HPos.out.1, HPos.out.2.1, rfl⟩, ?_⟩
      rw [← HP.out]; exact HA6.out
end Go.Proofs.YtacfhndledcmgaaGreatDoor
