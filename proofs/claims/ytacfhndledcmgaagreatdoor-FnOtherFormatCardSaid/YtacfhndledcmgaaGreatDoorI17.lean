/- Lemmas for the law FnOtherFormat: Append with another letter. Conditions: those in each theorem; none besides. -/
import Derived.Test.YtacfhndledcmgaaGreatDoorI16
import Derived.Test.YtacfhndledcmgaaGreatDoorI8
set_option linter.unusedVariables false
set_option linter.unusedSimpArgs false
namespace Go.Proofs.YtacfhndledcmgaaGreatDoor
open Go.RowKit
/-- A letter that is none of the formats. -/
def OtherCh (c : Nat) : Prop := c < 256 ∧ c ≠ 98 ∧ c ≠ 112 ∧ c ≠ 120 ∧ c ≠ 101 ∧ c ≠ 69 ∧ c ≠ 102 ∧ c ≠ 103 ∧ c ≠ 71
/-- 'append(buf, c, d)'. -/
theorem wpList_app2 {w0 W : World} {ops : Array Oper} {rest : List Oper} {o : Oper} {a : Act} {Q : Exit → Act → World → Prop} {z0 z : Value} {l : List Nat} {c d : Nat} (hgd : o.guard = none) (zo xo : Operand)
    (ho : o.op = .call { callee := .builtin .append, args := #[zo, xo], argTypes := #[56, 56] }) (hze : a.eval zo = z) (hxe : a.eval xo = .slice (some ⟨W.heap.size, 0, none⟩) 2 2) (hA : App .u8 256 w0 W z0 z l) (hc : c < 256) (hd : d < 256) (hbig : l.length < 4000000) (h17 : 17 ≤ w0.heap.size)
    (h : ∀ r w', App .u8 256 w0 w' z0 r (l ++ [c, d]) → wpList Tryz.prog ops Q rest (a.put o.dst r) w') : wpList Tryz.prog ops Q (o :: rest) a (W.alloc (.cells #[.int .u8 (c : Nat), .int .u8 (d : Nat)] 5)) := by
  have hA2 := hA.no ((Chg.refl No W).alloc (.cells #[.int .u8 (c : Nat), .int .u8 (d : Nat)] 5))
  refine wpList_appS (vs := [c, d]) hgd zo xo ho hze hxe rfl hA2 (by simp [hc, hd]) (fun j hj => ?_) (by simp) (by simp; omega) h17 h
  rw [Nat.zero_add]
  rw [World.cell?_alloc_new]
  have : j = 0 ∨ j = 1 := by simp at hj; omega
  rcases this with rfl | rfl <;> rfl
/-- The last byte taken off. -/
theorem App.cut1 {w w' : World} {z v : Value} {l : List Nat} {x : Nat} (h : App .u8 256 w w' z v (l ++ [x])) : ∃ b o c, v = .slice (some ⟨b, o, none⟩) (l.length + 1) c ∧ App .u8 256 w w' z (.slice (some ⟨b, o, none⟩) l.length c) l ∧ l.length + 1 ≤ c := by
  rcases h.ls with ⟨_, e⟩ | ⟨b, o, c, rfl, hn, hv⟩
  · simp at e
  · have hlen : (l ++ [x]).length = l.length + 1 := by simp
    have hle := hn.le
    rw [hlen] at hle
    refine ⟨b, o, c, by rw [hlen], ⟨.inr ⟨b, o, c, rfl, hn.len (by omega), fun j hj => ?_⟩, h.fp, h.chg⟩, hle⟩
    have := hv j (by omega)
    rw [this, List.getElem_append_left hj]
set_option maxRecDepth 100000 in
set_option maxHeartbeats 4000000 in
theorem append_o (ch : Nat) (hch : OtherCh ch) (buf : Value) (pre : List Nat) (base b P M : Nat) (n : Bool) (X : Nat) (E : Int) (xb xo m xc : Nat) (w : World) (hb : Ls .u8 256 w buf pre) (hx : FlX w base b P M n X E xb xo m xc) (hpre : pre.length ≤ 500) (hm : m ≤ 300)
    (hE1 : -18000 ≤ E) (hE2 : E ≤ 18000) (hbb : ∀ y o, Fp buf y o → y ≠ b ∧ y ≠ xb) (hg : Glob w) (hSm : Small (upTo X m * 2 ^ (shOf X m E).toNat)) (hI : ∀ A, A ≠ 0 → A ≤ upTo X m * 2 ^ (shOf X m E).toNat → ItoaOk A) :
    Calls Tryz.prog 125 #[.pointer (some ⟨b, 0, none⟩), buf, .int .u8 ch, .int .i64 3] w fun e w' => ∃ r, e = .returned r ∧ App .u8 256 w w' buf r (pre ++ [37, ch]) := by
  have h17 := hg.size
  obtain ⟨hc0, hc1, hc2, hc3, hc4, hc5, hc6, hc7, hc8⟩ := hch
  have t98 : ((ch : Int) == 98) = false := beq_eq_false_iff_ne.2 (by omega)
  have t112 : ((ch : Int) == 112) = false := beq_eq_false_iff_ne.2 (by omega)
  have t120 : ((ch : Int) == 120) = false := beq_eq_false_iff_ne.2 (by omega)
  have t101 : ((ch : Int) == 101) = false := beq_eq_false_iff_ne.2 (by omega)
  have t69 : ((ch : Int) == 69) = false := beq_eq_false_iff_ne.2 (by omega)
  have t102 : ((ch : Int) == 102) = false := beq_eq_false_iff_ne.2 (by omega)
  have t103 : ((ch : Int) == 103) = false := beq_eq_false_iff_ne.2 (by omega)
  have t71 : ((ch : Int) == 71) = false := beq_eq_false_iff_ne.2 (by omega)
  obtain ⟨c0, c1, c2, c3, c4, c5, c6, -, -, -, -, -⟩ := hx.fl
  have A0 := Lib.hid (App.refl hb)
  go_enter Tryz.func125, Tryz.ntmps125
  go_upto_if 16 with fail
  go_cut [1] (fun zv wx => ∃ pre', Hid (App .u8 256 w wx buf zv pre') ∧ Hid (pre' = pre ++ sgn n))
  case first =>
    cases n
    · go_wp2_with fail
      go_meet
      exact ⟨pre, A0, Lib.hid (by simp [sgn])⟩
    · go_wp2_with (refine wpList_app1 (w0 := w) (z0 := buf) (l := pre) (c := 45) rfl (.tmp 17) (.tmp 18) rfl rfl rfl A0.out (by omega) (by omega) h17 ?_; intro r w2 ha; have HA := Lib.hid ha; clear ha)
      go_meet
      exact ⟨pre ++ [45], HA, Lib.hid (by simp [sgn])⟩
  case rest =>
    obtain ⟨pre', HA, HP⟩ := hcut
    generalize wc = wa at *
    have hx1 := hx.chg HA.out.chg (fun o f => (hbb _ _ f).1 rfl) (fun o f => (hbb _ _ f).2 rfl)
    have hlt := hx1.fl.lt
    have hX0 := hx1.X0
    have hbl := blen_upTo hX0 hx1.m0 hx1.hi
    have hblX := hx1.hi
    have hblo := hx1.lo
    obtain ⟨bX, hbX⟩ : ∃ bX, bX = blen X := ⟨_, rfl⟩
    obtain ⟨bM, hbM⟩ : ∃ bM, bM = 64 * m := ⟨_, rfl⟩
    obtain ⟨sh, hsh⟩ : ∃ sh : Int, sh = (bX : Int) + E - (bM : Int) := ⟨_, rfl⟩
    have hsh2 : sh = shOf X m E := by unfold shOf; rw [hsh, hbX, hbM]
    have ib1 : bX ≤ 20000 := by omega
    have ib2 : bM ≤ 20000 := by omega
    have esh : (bX : Int) + E - (bM : Int) = sh := hsh.symm
    have ew1 : IntKind.i64.wrap ((bX : Int) + E) = (bX : Int) + E := IntWalk.i64_in _ (by omega)
    have ew2 : IntKind.i64.wrap sh = sh := IntWalk.i64_in _ (by omega)
    obtain ⟨c0, c1, c2, c3, c4, c5, c6, -, -, -, -, -⟩ := hx1.fl
    rw [← hbX] at c6
    have hgW : Glob wa := ⟨Nat.le_trans hg.size HA.out.chg.size, fun bb oo v e => (HA.out.chg.cell bb oo (Nat.lt_of_lt_of_le (gcell_lt e) hg.size) (fun f => by have := (hb.fp_lt f).2; have := gcell_lt e; omega)).trans (hg.cell bb oo v e)⟩
    have hbwc := fun y o (f : Fp buf y o) => (hb.fp_lt f).1
    have HW : Hid (∀ W, W = wa.alloc (.cells #[.slice none 0 0, .int .i64 0] 235) → (∀ j, Calls Tryz.prog 194 #[.slice (some ⟨xb, xo, none⟩) m xc] (W.drewN j) fun e w' => e = .returned (.int .i64 bM) ∧ ∃ j, w' = W.drewN j) ∧
        (∀ j, Calls Tryz.prog 193 #[.pointer (some ⟨wa.heap.size, 0, none⟩), .slice (some ⟨xb, xo, none⟩) m xc, .int .i64 sh] (W.drewN j) fun e w' => e = .returned (.tuple #[]) ∧ ∃ xb' xo' xc' ds x, DecIs w' wa.heap.size (upTo X m) sh xb' xo' xc' ds x ∧ wa.heap.size < xb' ∧ Chg No wa w')) := Lib.hid (by
      rintro W rfl
      have hk := (Chg.refl No wa).alloc (.cells #[.slice none 0 0, .int .i64 0] 235)
      have hnW := hx1.nt.chg hk (fun _ _ f => f)
      have hsmall : Small (upTo X m) := small_le hSm (Nat.le_mul_of_pos_right _ (Nat.two_pow_pos _))
      refine ⟨fun j => ?_, fun j => ?_⟩
      · have := nat_bitLen_d _ _ _ hnW.nt hsmall j
        rw [hbl, ← hbM] at this
        exact this
      · have hy0 : upTo X m ≠ 0 := by have := upTo_ge hX0 hx1.hi; have := Nat.two_pow_pos (64 * m - 1); omega
        have hs17 : 17 ≤ wa.heap.size := hgW.size
        refine (dec_init wa.heap.size xb xo m xc (upTo X m) sh ((wa.alloc (.cells #[.slice none 0 0, .int .i64 0] 235)).drewN j) (hnW.drewN j) hx1.m0 (by omega) hy0 (World.cell?_alloc_new _ _ _ _) (World.cell?_alloc_new _ _ _ _) (Plain.new _ _ _) hs17 ((hgW.no hk).drewN j) (by omega) (by omega) (by rw [hsh2]; exact hSm) (by rw [hsh2]; exact hI)).mono ?_
        rintro e w' ⟨h1, xb', xo', xc', ds, x, h2, h3, h4⟩
        refine ⟨h1, xb', xo', xc', ds, x, h2, ?_, (hk.drewN j).then h4 (fun y o hy f => ?_)⟩
        · have h5 : (wa.alloc (.cells #[.slice none 0 0, .int .i64 0] 235)).heap.size ≤ xb' := h3
          rw [hsz] at h5; omega
        · exact absurd f (Nat.ne_of_lt hy))
    have HSH := Lib.hid hsh2
    clear hbX hbM hsh hsh2 hbl hblX hX0 hblo
    go_upto_if 56 with fail
    generalize hWe : wa.alloc (.cells #[.slice none 0 0, .int .i64 0] 235) = W
    obtain ⟨H4, H3⟩ := HW.out W hWe.symm
    have H4 := Lib.hid H4
    have H3 := Lib.hid H3
    have k6 : Chg No wa W := by rw [← hWe]; exact (Chg.refl No wa).alloc _
    have d5 := (k6.cell b 5 hlt (fun f => f)).trans c5
    have d6 := (k6.cell b 6 hlt (fun f => f)).trans c6
    have d4 := (k6.cell b 4 hlt (fun f => f)).trans c4
    clear HW k6 hWe c5 c6
    go_cut [9] (fun dv wx => dv = .pointer (some ⟨wa.heap.size, 0, none⟩) ∧ ∃ (yb yo yc : Nat) (ds : List Nat) (x : Int), Hid (DecIs wx wa.heap.size (upTo X m) sh yb yo yc ds x) ∧ Hid (wa.heap.size < yb) ∧ Hid (Chg No wa wx))
    case first =>
      go_wp2_with fail
      go_region_with (first
        | (go_at_call 194; refine (H4.out _).mono ?_; rintro e w2 ⟨rfl, j, rfl⟩)
        | (go_at_call 193; (with_reducible refine (H3.out _).mono ?_); rintro e w3 ⟨rfl, yb, yo, yc, ds, x, hd1, hd2, hd3⟩; have HD1 := Lib.hid hd1; have HD2 := Lib.hid hd2; have HD3 := Lib.hid hd3; clear hd1 hd2 hd3))
      all_goals (go_wp2_with fail; go_meet; exact ⟨rfl, yb, yo, yc, ds, x, HD1, HD2, HD3⟩)
    case rest =>
      obtain ⟨rfl, yb, yo, yc, ds, x, HD1, HD2, HD3⟩ := hcut
      have hgc := hgW.no HD3.out
      have hds := HD1.out
      obtain ⟨g1, g2, g3, g4, g5, g6, g7, g8⟩ := hds
      have HAc := Lib.hid (HA.out.no HD3.out)
      have hd4 := (HD3.out.cell b 4 hlt (fun f => f)).trans c4
      have b0 := g1.c0
      have b1 := g1.c1
      have hub : ∀ y o, Fp u1 y o → y < wa.heap.size := fun y o f => (HA.out.ls.fp_lt f).1
      have hx8 := g8
      have hx7 := g7
      clear g1 g2 g3 g4 g5 g6 g7 g8 b0 b1
      cases n
      · go_wp2_with (at_builtin; refine wpList_app2 (w0 := w) (z0 := buf) (l := pre') (c := 37) (d := ch) rfl (.tmp 207) (.tmp 209) rfl rfl rfl HAc.out (by decide) hc0 (by rw [HP.out]; simp [sgn]; omega) h17 ?_; intro r w2 ha; have HA2 := Lib.hid ha; clear ha)
        go_ret
        have := HA2.out
        rw [HP.out, show pre ++ sgn false = pre by simp [sgn]] at this
        exact ⟨r, rfl, this⟩
      · have hcut1 := HAc.out
        rw [HP.out, show pre ++ sgn true = pre ++ [45] by simp [sgn]] at hcut1
        obtain ⟨rb, ro, rc, e1, hA1, hle⟩ := hcut1.cut1
        subst e1
        have HA1 := Lib.hid hA1
        have i9 : (pre.length : Int) ≤ (rc : Int) := by omega
        have z9 : ((pre.length + 1 : Nat) : Int) - 1 = (pre.length : Int) := by omega
        clear hcut1 hA1
        go_wp2_with (at_builtin; refine wpList_app2 (w0 := w) (z0 := buf) (l := pre) (c := 37) (d := ch) rfl (.tmp 207) (.tmp 209) rfl rfl rfl HA1.out (by decide) hc0 (by omega) h17 ?_; intro r w2 ha; have HA2 := Lib.hid ha; clear ha)
        go_ret
        exact ⟨r, rfl, HA2.out⟩
end Go.Proofs.YtacfhndledcmgaaGreatDoor
