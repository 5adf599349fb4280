/- Lemmas for the law FnBackDecimal: nat.add to nat.bitLen. Conditions: those in each theorem; none besides. -/
import Derived.Test.YtacfhndledcmgaaGreatDoorK3
set_option linter.unusedVariables false
set_option linter.unusedSimpArgs false
namespace Go.Proofs.YtacfhndledcmgaaGreatDoor
open Go.RowKit
/-- In other blocks. -/
def Ab (z x : Value) : Prop := ∀ b o b' o', Fp z b o → Fp x b' o' → b ≠ b'
/-- Two operands: the same array from the same place on, or in other blocks. -/
def AlB (z x : Value) : Prop := (∃ b o n m c, z = .slice (some ⟨b, o, none⟩) m c ∧ x = .slice (some ⟨b, o, none⟩) n c) ∨ Ab z x
theorem Ab.apart {z x : Value} (h : Ab z x) : Apart z x := fun b o h1 h2 => h b o b o h1 h2 rfl
theorem AlB.al {z x : Value} (h : AlB z x) : Al z x := h.imp id Ab.apart
/-- Where an operand lies, seen from the new slice. -/
theorem AlB.from {w w' : World} {z : Value} {b o c xb xo xn xc : Nat} (h : AlB z (.slice (some ⟨xb, xo, none⟩) xn xc)) (hf : From w w' z b o c) (hx : NW w xb xo xn xc) (h0 : 0 < xc) (h1 : 0 < c) : xb ≠ b ∨ (xo = o ∧ xb = b) := by
  rcases hf with ⟨_, m, rfl⟩ | rfl
  · rcases h with ⟨b', o', n', m', c', e1, e2⟩ | h
    · cases e1; cases e2; exact .inr ⟨rfl, rfl⟩
    · exact .inl fun e => h b o xb xo ⟨rfl, Nat.le_refl _, by simp; omega⟩ ⟨rfl, Nat.le_refl _, by simp; omega⟩ e.symm
  · exact .inl (Nat.ne_of_lt hx.lt)
theorem From.res {w w1 w2 : World} {z r : Value} {b o c R : Nat} (hf : From w w1 z b o c) (h1 : Chg No w w1) (h2 : Chg (Rng b o c) w1 w2) (hr : Nt w2 r R) (hfp : ∀ x p, Fp r x p → Rng b o c x p) : Res w w2 z r R := by
  refine ⟨hr, fun x p h => ?_, h1.no.then h2 ?_⟩
  · obtain ⟨e, h2, h3⟩ := hfp x p h
    rcases hf with ⟨_, m, rfl⟩ | h
    · exact .inl ⟨e, h2, h3⟩
    · exact .inr (by omega)
  · rintro x p hlt ⟨e, h2, h3⟩
    rcases hf with ⟨_, m, rfl⟩ | h
    · exact ⟨e, h2, h3⟩
    · omega
theorem bit_lt {d : Nat} (h : d ≤ 1) : d < WB := Nat.lt_of_le_of_lt h (by decide)
theorem add_alg {P A c1 X0 Y0 A1 c2 X1 P1 : Nat} (h1 : A + c1 * P = X0 + Y0) (h2 : A1 + c2 * P1 = X1 + c1) : A + P * A1 + c2 * (P * P1) = X0 + P * X1 + Y0 := by
  have : P * (A1 + c2 * P1) = P * (X1 + c1) := by rw [h2]
  grind
theorem Chg.ofDrewN {S : Nat → Nat → Prop} {w w' : World} {k : Nat} (h : Chg S (w.drewN k) w') : Chg S w w' := ((Chg.refl S w).drewN k).then h fun _ _ _ s => s
theorem Wr.drewN {w : World} {b o n : Nat} (h : Wr w b o n) (k : Nat) : Wr (w.drewN k) b o n := ⟨h.isW, h.plain⟩
theorem addVV_d (zb zo zc xb xo xc yb yo yc n : Nat) (w : World) (hn : n < 4611686018427387904)
    (hz : Wr w zb zo n) (hx : ∀ i, i < n → IsW w xb (xo + i)) (hy : ∀ i, i < n → IsW w yb (yo + i))
    (hxz : xb ≠ zb ∨ xo = zo ∨ xo + n ≤ zo ∨ zo + n ≤ xo) (hyz : yb ≠ zb ∨ yo = zo ∨ yo + n ≤ zo ∨ zo + n ≤ yo) (k : Nat) :
    Calls Tryz.prog 181 #[.slice (some ⟨zb, zo, none⟩) n zc, .slice (some ⟨xb, xo, none⟩) n xc, .slice (some ⟨yb, yo, none⟩) n yc] (w.drewN k) fun e w' =>
      ∃ c : Nat, e = .returned (.int .u64 c) ∧ c ≤ 1 ∧ Hid (Val w' zb zo n + c * WB ^ n = Val w xb xo n + Val w yb yo n) ∧ Chg (Rng zb zo n) w w' :=
  (addVV zb zo zc xb xo xc yb yo yc n (w.drewN k) hn (hz.drewN k) hx hy hxz hyz).mono fun _ _ ⟨c, h1, h2, h3, h4⟩ => ⟨c, h1, h2, h3, h4.ofDrewN⟩
theorem addVW_d (zb zo zc xb xo xc n y : Nat) (w : World) (hn : n < 4611686018427387904) (hn0 : 0 < n) (hy : y < WB) (hnz : n ≤ zc) (hnx : n ≤ xc)
    (hz : Wr w zb zo n) (hx : ∀ i, i < n → IsW w xb (xo + i)) (hpx : Plain w xb) (hxz : xb ≠ zb ∨ xo = zo) (k : Nat) :
    Calls Tryz.prog 182 #[.slice (some ⟨zb, zo, none⟩) n zc, .slice (some ⟨xb, xo, none⟩) n xc, .int .u64 y] (w.drewN k) fun e w' =>
      ∃ c : Nat, e = .returned (.int .u64 c) ∧ c ≤ 1 ∧ Hid (Val w' zb zo n + c * WB ^ n = Val w xb xo n + y) ∧ Chg (Rng zb zo n) w w' :=
  (addVW zb zo zc xb xo xc n y (w.drewN k) hn hn0 hy hnz hnx (hz.drewN k) hx hpx hxz).mono fun _ _ ⟨c, h1, h2, h3, h4⟩ => ⟨c, h1, h2, h3, h4.ofDrewN⟩
set_option maxHeartbeats 1000000 in
theorem nat_add_ge (z : Value) (xb xo m xc yb yo n yc X Y : Nat) (w : World) (hz : Ow w z) (hx : NtAt w xb xo m xc X) (hy : NtAt w yb yo n yc Y) (hm : m ≤ 1000) (hn0 : 0 < n) (hnm : n ≤ m)
    (ax : AlB z (.slice (some ⟨xb, xo, none⟩) m xc)) (ay : AlB z (.slice (some ⟨yb, yo, none⟩) n yc)) (hs : 17 ≤ w.heap.size) :
    Calls Tryz.prog 117 #[z, .slice (some ⟨xb, xo, none⟩) m xc, .slice (some ⟨yb, yo, none⟩) n yc] w fun e w' => ∃ r, e = .returned r ∧ Res w w' z r (X + Y) := by
  obtain ⟨hxN, hxv, hxz⟩ := hx
  obtain ⟨hyN, hyv, hyz⟩ := hy
  have xle := hxN.le
  have yle := hyN.le
  have c1 : ¬ (m : Int) < n := by omega
  have c2 : ((m : Int) == 0) = false := by simp; omega
  have c3 : ((n : Int) == 0) = false := by simp; omega
  have em : ((m + 1 : Nat) : Int) = (m : Int) + 1 := by omega
  have hmk := nat_make z (m + 1) w hz (by omega) (by omega) hs
  rw [em] at hmk
  have Hmk := Lib.hid hmk
  have Hx := Lib.hid hxv; have Hy := Lib.hid hyv
  clear hmk em hxv hyv hxz hyz
  go_enter Tryz.func117, Tryz.ntmps117
  go_wp2_with fail
  refine Hmk.out.mono ?_
  rintro e w1 ⟨b, o, c, rfl, hN, hc, hfrom⟩
  have hle := hN.le
  have Hfrom := Lib.hid hfrom
  have alx := Lib.hid (ax.from hfrom hxN (by omega) (by omega))
  have aly := Lib.hid (ay.from hfrom hyN (by omega) (by omega))
  clear hfrom
  have a1 := addVV_d b o c xb xo xc yb yo yc n w1 (by omega) (by have := hN.wr 0 n (by omega); rwa [Nat.add_zero] at this) (fun i hi => hc.isW _ _ (hxN.isW i (by omega))) (fun i hi => hc.isW _ _ (hyN.isW i (by omega))) (by have := alx.out; omega) (by have := aly.out; omega)
  have A1 := Lib.hid a1
  clear a1
  have i1 : (n : Int) ≤ c := by omega
  have i2 : (n : Int) ≤ xc := by omega
  have i3 : (n : Int) ≤ yc := by omega
  have i4 : (0 : Int) ≤ n := by omega
  go_wp2_with fail
  go_region_with (go_at_call 181; refine (A1.out _).mono ?_; rintro e w2 ⟨d1, rfl, hd1, hv1, hc2⟩)
  have hw2 : ∀ i, i < c → IsW w2 b (o + i) := fun i hi => hc2.isW _ _ (hN.isW i hi)
  have hfin : ∀ (w3 : World) (d2 : Nat), d2 ≤ 1 → Val w3 b o m + d2 * WB ^ m = X + Y → Chg (Rng b o m) w1 w3 →
      ∀ (r : Value) (w4 : World), w4 = w3.setCell ⟨b, o + m, none⟩ (.int .u64 d2) → (∃ k, r = .slice (some ⟨b, o, none⟩) k c ∧ NtAt w4 b o k c (Val w4 b o (m + 1))) → Res w w4 z r (X + Y) := by
    rintro w3 d2 hd2 hv hc3 r w4 rfl ⟨k, rfl, hr⟩
    have hwm : IsW w3 b (o + m) := hc3.isW _ _ (hN.isW m (by omega))
    have h4 := Chg.setW (S := Rng b o c) (hc3.mono (fun x p _ h => ⟨h.1, h.2.1, by have := h.2.2; omega⟩)) hwm (n := d2) (bit_lt hd2) (fun _ => ⟨rfl, by omega, by omega⟩)
    rw [Val_set hwm, hv] at hr
    exact Hfrom.out.res hc h4 hr.nt (fun x p h => h)
  have Hfin := Lib.hid hfin
  clear hfin
  have j1 : (m : Int) < (m : Int) + 1 := by omega
  by_cases hnm' : n = m
  · subst hnm'
    have t1 : decide (n < n) = false := decide_eq_false (by omega)
    have cz := (hw2 n (by omega)).cell
    have fz := (hc2.plain _ hN.plain).free (o + n)
    go_wp2_with fail
    have hN4 := (hN.chg hc2).chg (Chg.setW (S := Rng b o c) (Chg.refl _ w2) (hw2 n (by omega)) (n := d1) (bit_lt hd1) (fun _ => ⟨rfl, by omega, by omega⟩))
    refine (nat_norm b o (n + 1) c _ hN4 (by omega)).mono ?_
    rintro e w4 ⟨k, rfl, hr, hk, rfl⟩
    go_wp2_with fail
    go_ret
    refine ⟨_, rfl, Hfin.out w2 d1 hd1 ?_ hc2 _ _ rfl ⟨k, rfl, hr⟩⟩
    have e1 : Val w1 xb xo n = Val w xb xo n := Val_congr fun i hi => wd_congr (hc.cell _ _ hxN.lt (fun f => f))
    have e2 : Val w1 yb yo n = Val w yb yo n := Val_congr fun i hi => wd_congr (hc.cell _ _ hyN.lt (fun f => f))
    rw [hv1.out, e1, e2, Hx.out, Hy.out]
  · have hlt : n < m := by omega
    have t1 : decide (n < m) = true := decide_eq_true hlt
    have k1 : ¬ c = n := by omega
    have k2 : ¬ xc = n := by omega
    have k3 : (n : Int) ≤ m := by omega
    have k4 : (m : Int) ≤ c := by omega
    have hwz : Wr w2 b (o + n) (m - n) := (hN.chg hc2).wr n (m - n) (by omega)
    have a2 := addVW_d b (o + n) (c - n) xb (xo + n) (xc - n) (m - n) d1 w2 (by omega) (by omega) (bit_lt hd1) (by omega) (by omega) hwz
      (fun i hi => by rw [Nat.add_assoc]; exact hc2.isW _ _ (hc.isW _ _ (hxN.isW (n + i) (by omega)))) (hc2.plain _ (hc.plain _ hxN.plain)) (by have := alx.out; omega)
    have A2 := Lib.hid a2
    clear a2
    go_wp2_with fail
    go_region_with (go_at_call 182; refine (A2.out _).mono ?_; rintro e w3 ⟨d2, rfl, hd2, hv2, hc3⟩)
    have hw3 : IsW w3 b (o + m) := hc3.isW _ _ (hw2 m (by omega))
    have cz := hw3.cell
    have fz := (hc3.plain _ (hc2.plain _ hN.plain)).free (o + m)
    go_wp2_with fail
    have hN4 := ((hN.chg hc2).chg hc3).chg (Chg.setW (S := Rng b o c) (Chg.refl _ w3) hw3 (n := d2) (bit_lt hd2) (fun _ => ⟨rfl, by omega, by omega⟩))
    refine (nat_norm b o (m + 1) c _ hN4 (by omega)).mono ?_
    rintro e w4 ⟨k, rfl, hr, hk, rfl⟩
    go_wp2_with fail
    go_ret
    refine ⟨_, rfl, Hfin.out w3 d2 hd2 ?_ ((hc2.mono (fun x p _ h => ⟨h.1, h.2.1, by have := h.2.2; omega⟩)).then hc3 (fun x p _ h => ⟨h.1, by have := h.2.1; omega, by have := h.2.2; omega⟩)) _ _ rfl ⟨k, rfl, hr⟩⟩
    have e1 : Val w1 xb xo n = Val w xb xo n := Val_congr fun i hi => wd_congr (hc.cell _ _ hxN.lt (fun f => f))
    have e2 : Val w1 yb yo n = Val w yb yo n := Val_congr fun i hi => wd_congr (hc.cell _ _ hyN.lt (fun f => f))
    have e3 : Val w2 xb (xo + n) (m - n) = Val w xb (xo + n) (m - n) := Val_congr fun i hi => (wd_congr (hc2.cell _ _ (by have := hxN.lt; have := hc.size; omega) (by have := alx.out; unfold Rng; omega))).trans (wd_congr (hc.cell _ _ hxN.lt (fun f => f)))
    have e4 : Val w3 b o n = Val w2 b o n := Val_congr fun i hi => wd_congr (hc3.cell _ _ (hw2 i (by omega)).block (by unfold Rng; omega))
    have s1 := Val_split w3 b o n (m - n)
    have s2 := Val_split w xb xo n (m - n)
    rw [show n + (m - n) = m by omega] at s1 s2
    have g1 := hv1.out
    have g2 := hv2.out
    rw [e1, e2, Hy.out] at g1
    rw [e3] at g2
    rw [s1, e4, ← Hx.out, s2]
    have hp : WB ^ m = WB ^ n * WB ^ (m - n) := by rw [← Nat.pow_add, show n + (m - n) = m by omega]
    rw [hp]
    exact add_alg g1 g2
theorem Nt.at {w : World} {b : Option Addr} {n c X : Nat} (h : Nt w (.slice b n c) X) (hn : 0 < n) : ∃ b' o', b = some ⟨b', o', none⟩ ∧ NtAt w b' o' n c X := by
  rcases h with ⟨h, _⟩ | ⟨b', o', n', c', h, hh⟩
  · cases h; omega
  · cases h; exact ⟨b', o', rfl, hh⟩
set_option maxHeartbeats 1000000 in
theorem nat_add_y0 (z : Value) (xa : Option Addr) (m xc : Nat) (ya : Option Addr) (yc : Nat) (X : Nat) (w : World) (hz : Ow w z) (hx : Nt w (.slice xa m xc) X) (hX : Small X) (hm : 0 < m) (hm2 : m ≤ 1000) (hs : 17 ≤ w.heap.size) :
    Calls Tryz.prog 117 #[z, .slice xa m xc, .slice ya 0 yc] w fun e w' => ∃ r, e = .returned r ∧ Res w w' z r X := by
  have hset := nat_set z (.slice xa m xc) X w hz hx hX hs
  have c1 : ¬ (m : Int) < 0 := by omega
  have c3 : ((m : Int) == 0) = false := by simp; omega
  clear hX hx
  go_enter Tryz.func117, Tryz.ntmps117
  go_wp2_with fail
  refine hset.mono ?_
  rintro e w' ⟨r, rfl, hr⟩
  go_wp2_with fail
  go_ret
  exact ⟨r, rfl, hr⟩
set_option maxHeartbeats 1000000 in
theorem nat_add (z x y : Value) (X Y : Nat) (w : World) (hz : Ow w z) (hx : Nt w x X) (hy : Nt w y Y) (hX : Small X) (hY : Small Y) (ax : AlB z x) (ay : AlB z y) (hs : 17 ≤ w.heap.size) :
    Calls Tryz.prog 117 #[z, x, y] w fun e w' => ∃ r, e = .returned r ∧ Res w w' z r (X + Y) := by
  obtain ⟨xa, m, xc, rfl, hm, hx0, -⟩ := hx.cases hX
  obtain ⟨ya, n, yc, rfl, hn, hy0, -⟩ := hy.cases hY
  by_cases hmn : m < n
  · obtain ⟨yb, yo, rfl, hyA⟩ := hy.at (by omega)
    by_cases hm0 : m = 0
    · subst hm0
      have h := nat_add_y0 z (some ⟨yb, yo, none⟩) n yc xa xc Y w hz hy hY (by omega) hn hs
      obtain rfl := hx0 rfl
      have c1 : (0 : Int) < n := by omega
      clear hX hY hx hy
      go_enter Tryz.func117, Tryz.ntmps117
      go_wp2_with fail
      refine h.mono ?_
      rintro e w' ⟨r, rfl, hr⟩
      go_wp2_with fail
      go_ret
      exact ⟨r, rfl, by rw [Nat.zero_add]; exact hr⟩
    · obtain ⟨xb, xo, rfl, hxA⟩ := hx.at (by omega)
      have h := nat_add_ge z yb yo n yc xb xo m xc Y X w hz hyA hxA hn (by omega) (by omega) ay ax hs
      have c1 : (m : Int) < n := by omega
      clear hX hY hx hy
      go_enter Tryz.func117, Tryz.ntmps117
      go_wp2_with fail
      refine h.mono ?_
      rintro e w' ⟨r, rfl, hr⟩
      go_wp2_with fail
      go_ret
      exact ⟨r, rfl, by rw [Nat.add_comm X]; exact hr⟩
  · by_cases hm0 : m = 0
    · subst hm0
      obtain rfl : n = 0 := by omega
      obtain rfl := hx0 rfl
      obtain rfl := hy0 rfl
      have hres : Res w w z (cut0 z) 0 := ⟨Nt.cut0 hz, fun b o h => .inl h.cut0, Chg.refl _ _⟩
      clear hX hY hx hy
      rcases hz with rfl | ⟨b, o, n, c, rfl, hN⟩
      · go_enter Tryz.func117, Tryz.ntmps117
        go_wp2_with fail
        go_ret
        exact ⟨_, rfl, hres⟩
      · have c1 : (0 : Int) ≤ c := by omega
        go_enter Tryz.func117, Tryz.ntmps117
        go_wp2_with fail
        go_ret
        exact ⟨_, rfl, hres⟩
    · by_cases hn0 : n = 0
      · subst hn0
        obtain rfl := hy0 rfl
        exact nat_add_y0 z xa m xc ya yc X w hz hx hX (by omega) hm hs
      · obtain ⟨xb, xo, rfl, hxA⟩ := hx.at (by omega)
        obtain ⟨yb, yo, rfl, hyA⟩ := hy.at (by omega)
        exact nat_add_ge z xb xo m xc yb yo n yc X Y w hz hxA hyA hm (by omega) (by omega) ax ay hs
theorem sub_alg {P A c1 X0 Y0 A1 c2 X1 P1 : Nat} (h1 : A + Y0 = X0 + c1 * P) (h2 : A1 + c1 = X1 + c2 * P1) : A + P * A1 + Y0 = X0 + P * X1 + c2 * (P * P1) := by
  have : P * (A1 + c1) = P * (X1 + c2 * P1) := by rw [h2]
  grind
theorem subVV_d (zb zo zc xb xo xc yb yo yc n : Nat) (w : World) (hn : n < 4611686018427387904)
    (hz : Wr w zb zo n) (hx : ∀ i, i < n → IsW w xb (xo + i)) (hy : ∀ i, i < n → IsW w yb (yo + i))
    (hxz : xb ≠ zb ∨ xo = zo ∨ xo + n ≤ zo ∨ zo + n ≤ xo) (hyz : yb ≠ zb ∨ yo = zo ∨ yo + n ≤ zo ∨ zo + n ≤ yo) (k : Nat) :
    Calls Tryz.prog 183 #[.slice (some ⟨zb, zo, none⟩) n zc, .slice (some ⟨xb, xo, none⟩) n xc, .slice (some ⟨yb, yo, none⟩) n yc] (w.drewN k) fun e w' =>
      ∃ c : Nat, e = .returned (.int .u64 c) ∧ c ≤ 1 ∧ Hid (Val w' zb zo n + Val w yb yo n = Val w xb xo n + c * WB ^ n) ∧ Chg (Rng zb zo n) w w' :=
  (subVV zb zo zc xb xo xc yb yo yc n (w.drewN k) hn (hz.drewN k) hx hy hxz hyz).mono fun _ _ ⟨c, h1, h2, h3, h4⟩ => ⟨c, h1, h2, h3, h4.ofDrewN⟩
theorem subVW_d (zb zo zc xb xo xc n y : Nat) (w : World) (hn : n < 4611686018427387904) (hn0 : 0 < n) (hy : y < WB) (hnz : n ≤ zc) (hnx : n ≤ xc)
    (hz : Wr w zb zo n) (hx : ∀ i, i < n → IsW w xb (xo + i)) (hpx : Plain w xb) (hxz : xb ≠ zb ∨ xo = zo) (k : Nat) :
    Calls Tryz.prog 184 #[.slice (some ⟨zb, zo, none⟩) n zc, .slice (some ⟨xb, xo, none⟩) n xc, .int .u64 y] (w.drewN k) fun e w' =>
      ∃ c : Nat, e = .returned (.int .u64 c) ∧ c ≤ 1 ∧ Hid (Val w' zb zo n + y = Val w xb xo n + c * WB ^ n) ∧ Chg (Rng zb zo n) w w' :=
  (subVW zb zo zc xb xo xc n y (w.drewN k) hn hn0 hy hnz hnx (hz.drewN k) hx hpx hxz).mono fun _ _ ⟨c, h1, h2, h3, h4⟩ => ⟨c, h1, h2, h3, h4.ofDrewN⟩
set_option maxHeartbeats 1000000 in
theorem nat_sub_ge (z : Value) (xb xo m xc yb yo n yc X Y : Nat) (w : World) (hz : Ow w z) (hx : NtAt w xb xo m xc X) (hy : NtAt w yb yo n yc Y) (hm : m ≤ 1000) (hn0 : 0 < n) (hnm : n ≤ m)
    (ax : AlB z (.slice (some ⟨xb, xo, none⟩) m xc)) (ay : AlB z (.slice (some ⟨yb, yo, none⟩) n yc)) (hs : 17 ≤ w.heap.size) (hXY : Y ≤ X) :
    Calls Tryz.prog 119 #[z, .slice (some ⟨xb, xo, none⟩) m xc, .slice (some ⟨yb, yo, none⟩) n yc] w fun e w' => ∃ r, e = .returned r ∧ Res w w' z r (X - Y) := by
  obtain ⟨hxN, hxv, hxz⟩ := hx
  obtain ⟨hyN, hyv, hyz⟩ := hy
  have xle := hxN.le
  have yle := hyN.le
  have c1 : ¬ (m : Int) < n := by omega
  have c2 : ((m : Int) == 0) = false := by simp; omega
  have c3 : ((n : Int) == 0) = false := by simp; omega
  have hmk := nat_make z m w hz (by omega) (by omega) hs
  have Hmk := Lib.hid hmk
  have hXm : X < WB ^ m := by rw [← hxv]; exact Val_lt fun i hi => hxN.isW i (by omega)
  have HXm := Lib.hid hXm
  have HXY := Lib.hid hXY
  have Hx := Lib.hid hxv; have Hy := Lib.hid hyv
  clear hmk hxv hyv hxz hyz hXm hXY
  go_enter Tryz.func119, Tryz.ntmps119
  go_wp2_with fail
  refine Hmk.out.mono ?_
  rintro e w1 ⟨b, o, c, rfl, hN, hc, hfrom⟩
  have hle := hN.le
  have Hfrom := Lib.hid hfrom
  have alx := Lib.hid (ax.from hfrom hxN (by omega) (by omega))
  have aly := Lib.hid (ay.from hfrom hyN (by omega) (by omega))
  clear hfrom
  have a1 := subVV_d b o c xb xo xc yb yo yc n w1 (by omega) (by have := hN.wr 0 n (by omega); rwa [Nat.add_zero] at this) (fun i hi => hc.isW _ _ (hxN.isW i (by omega))) (fun i hi => hc.isW _ _ (hyN.isW i (by omega))) (by have := alx.out; omega) (by have := aly.out; omega)
  have A1 := Lib.hid a1
  clear a1
  have i1 : (n : Int) ≤ c := by omega
  have i2 : (n : Int) ≤ xc := by omega
  have i3 : (n : Int) ≤ yc := by omega
  have i4 : (0 : Int) ≤ n := by omega
  go_wp2_with fail
  go_region_with (go_at_call 183; refine (A1.out _).mono ?_; rintro e w2 ⟨d1, rfl, hd1, hv1, hc2⟩)
  have hw2 : ∀ i, i < c → IsW w2 b (o + i) := fun i hi => hc2.isW _ _ (hN.isW i hi)
  have hfin : ∀ (w3 : World) (d2 : Nat), d2 ≤ 1 → Val w3 b o m + Y = X + d2 * WB ^ m → Chg (Rng b o m) w1 w3 →
      d2 = 0 ∧ ∀ (r : Value), (∃ k, r = .slice (some ⟨b, o, none⟩) k c ∧ NtAt w3 b o k c (Val w3 b o m)) → Res w w3 z r (X - Y) := by
    intro w3 d2 hd2 hv hc3
    have hlt : Val w3 b o m < WB ^ m := Val_lt fun i hi => hc3.isW _ _ (hN.isW i (by omega))
    have h1 := HXm.out
    have h2 := HXY.out
    have hd0 : d2 = 0 := by
      rcases Nat.lt_or_ge d2 1 with h | h
      · omega
      · have : 1 * WB ^ m ≤ d2 * WB ^ m := Nat.mul_le_mul_right _ h
        omega
    refine ⟨hd0, ?_⟩
    rintro r ⟨k, rfl, hr⟩
    rw [hd0, Nat.zero_mul, Nat.add_zero] at hv
    rw [show Val w3 b o m = X - Y by omega] at hr
    exact Hfrom.out.res hc (hc3.mono (fun x p _ h => ⟨h.1, h.2.1, by have := h.2.2; omega⟩)) hr.nt (fun x p h => h)
  have Hfin := Lib.hid hfin
  clear hfin
  by_cases hnm' : n = m
  · subst hnm'
    have t1 : decide (n < n) = false := decide_eq_false (by omega)
    have e1 : Val w1 xb xo n = Val w xb xo n := Val_congr fun i hi => wd_congr (hc.cell _ _ hxN.lt (fun f => f))
    have e2 : Val w1 yb yo n = Val w yb yo n := Val_congr fun i hi => wd_congr (hc.cell _ _ hyN.lt (fun f => f))
    have hv := hv1.out
    rw [e1, e2, Hx.out, Hy.out] at hv
    obtain ⟨hd0, hres⟩ := Hfin.out w2 d1 hd1 hv hc2
    have Hres := Lib.hid hres
    subst hd0
    clear hv hres e1 e2
    go_wp2_with fail
    refine (nat_norm b o n c _ (hN.chg hc2) (by omega)).mono ?_
    rintro e w4 ⟨k, rfl, hr, hk, rfl⟩
    go_wp2_with fail
    go_ret
    exact ⟨_, rfl, Hres.out _ ⟨k, rfl, hr⟩⟩
  · have hlt : n < m := by omega
    have t1 : decide (n < m) = true := decide_eq_true hlt
    have k1 : ¬ c = n := by omega
    have k2 : ¬ xc = n := by omega
    have k3 : (n : Int) ≤ m := by omega
    have hwz : Wr w2 b (o + n) (m - n) := (hN.chg hc2).wr n (m - n) (by omega)
    have a2 := subVW_d b (o + n) (c - n) xb (xo + n) (xc - n) (m - n) d1 w2 (by omega) (by omega) (bit_lt hd1) (by omega) (by omega) hwz
      (fun i hi => by rw [Nat.add_assoc]; exact hc2.isW _ _ (hc.isW _ _ (hxN.isW (n + i) (by omega)))) (hc2.plain _ (hc.plain _ hxN.plain)) (by have := alx.out; omega)
    have A2 := Lib.hid a2
    clear a2
    go_wp2_with fail
    go_region_with (go_at_call 184; refine (A2.out _).mono ?_; rintro e w3 ⟨d2, rfl, hd2, hv2, hc3⟩)
    have e1 : Val w1 xb xo n = Val w xb xo n := Val_congr fun i hi => wd_congr (hc.cell _ _ hxN.lt (fun f => f))
    have e2 : Val w1 yb yo n = Val w yb yo n := Val_congr fun i hi => wd_congr (hc.cell _ _ hyN.lt (fun f => f))
    have e3 : Val w2 xb (xo + n) (m - n) = Val w xb (xo + n) (m - n) := Val_congr fun i hi => (wd_congr (hc2.cell _ _ (by have := hxN.lt; have := hc.size; omega) (by have := alx.out; unfold Rng; omega))).trans (wd_congr (hc.cell _ _ hxN.lt (fun f => f)))
    have e4 : Val w3 b o n = Val w2 b o n := Val_congr fun i hi => wd_congr (hc3.cell _ _ (hw2 i (by omega)).block (by unfold Rng; omega))
    have hv : Val w3 b o m + Y = X + d2 * WB ^ m := by
      have s1 := Val_split w3 b o n (m - n)
      have s2 := Val_split w xb xo n (m - n)
      rw [show n + (m - n) = m by omega] at s1 s2
      have g1 := hv1.out
      have g2 := hv2.out
      rw [e1, e2, Hy.out] at g1
      rw [e3] at g2
      rw [s1, e4, ← Hx.out, s2]
      have hp : WB ^ m = WB ^ n * WB ^ (m - n) := by rw [← Nat.pow_add, show n + (m - n) = m by omega]
      rw [hp]
      exact sub_alg g1 g2
    obtain ⟨hd0, hres⟩ := Hfin.out w3 d2 hd2 hv ((hc2.mono (fun x p _ h => ⟨h.1, h.2.1, by have := h.2.2; omega⟩)).then hc3 (fun x p _ h => ⟨h.1, by have := h.2.1; omega, by have := h.2.2; omega⟩))
    have Hres := Lib.hid hres
    subst hd0
    clear hv hres e1 e2 e3 e4
    go_wp2_with fail
    refine (nat_norm b o m c _ ((hN.chg hc2).chg hc3) (by omega)).mono ?_
    rintro e w4 ⟨k, rfl, hr, hk, rfl⟩
    go_wp2_with fail
    go_ret
    exact ⟨_, rfl, Hres.out _ ⟨k, rfl, hr⟩⟩
set_option maxHeartbeats 1000000 in
theorem nat_sub (z x y : Value) (X Y : Nat) (w : World) (hz : Ow w z) (hx : Nt w x X) (hy : Nt w y Y) (hX : Small X) (hXY : Y ≤ X) (ax : AlB z x) (ay : AlB z y) (hs : 17 ≤ w.heap.size) :
    Calls Tryz.prog 119 #[z, x, y] w fun e w' => ∃ r, e = .returned r ∧ Res w w' z r (X - Y) := by
  have hY : Small Y := Nat.lt_of_le_of_lt hXY hX
  obtain ⟨xa, m, xc, rfl, hm, hx0, hxl, -⟩ := hx.cases hX
  obtain ⟨ya, n, yc, rfl, hn, hy0, hyl, hyg⟩ := hy.cases hY
  have hnm : n ≤ m := by
    rcases Nat.lt_or_ge m n with h | h
    · have h1 := (hyg (by omega)).1
      have h2 : WB ^ m ≤ WB ^ (n - 1) := Nat.pow_le_pow_right WB_pos (by omega)
      omega
    · exact h
  clear hxl hyl hyg hY
  by_cases hm0 : m = 0
  · subst hm0
    obtain rfl : n = 0 := by omega
    obtain rfl := hx0 rfl
    obtain rfl := hy0 rfl
    have hres : Res w w z (cut0 z) 0 := ⟨Nt.cut0 hz, fun b o h => .inl h.cut0, Chg.refl _ _⟩
    clear hX hx hy
    rcases hz with rfl | ⟨b, o, n, c, rfl, hN⟩
    · go_enter Tryz.func119, Tryz.ntmps119
      go_wp2_with fail
      go_ret
      exact ⟨_, rfl, hres⟩
    · have c1 : (0 : Int) ≤ c := by omega
      go_enter Tryz.func119, Tryz.ntmps119
      go_wp2_with fail
      go_ret
      exact ⟨_, rfl, hres⟩
  · by_cases hn0 : n = 0
    · subst hn0
      obtain rfl := hy0 rfl
      have hset := nat_set z (.slice xa m xc) X w hz hx hX hs
      have c1 : ¬ (m : Int) < 0 := by omega
      have c3 : ((m : Int) == 0) = false := by simp; omega
      clear hX hx hy
      go_enter Tryz.func119, Tryz.ntmps119
      go_wp2_with fail
      refine hset.mono ?_
      rintro e w' ⟨r, rfl, hr⟩
      go_wp2_with fail
      go_ret
      exact ⟨r, rfl, hr⟩
    · obtain ⟨xb, xo, rfl, hxA⟩ := hx.at (by omega)
      obtain ⟨yb, yo, rfl, hyA⟩ := hy.at (by omega)
      exact nat_sub_ge z xb xo m xc yb yo n yc X Y w hz hxA hyA hm (by omega) hnm ax ay hs hXY
def deB64 : List Nat := [0, 1, 56, 2, 57, 49, 28, 3, 61, 58, 42, 50, 38, 29, 17, 4, 62, 47, 59, 36, 45, 43, 51, 22, 53, 39, 33, 30, 24, 18, 12, 5, 63, 55, 48, 27, 60, 41, 37, 16, 46, 35, 44, 21, 52, 32, 23, 11, 54, 26, 40, 15, 34, 20, 31, 10, 25, 14, 19, 9, 13, 8, 7, 6]
def pow10tab : List Nat := (List.range 20).map (10 ^ ·)
/-- What the package-level variables of plain numbers hold. -/
def gcell : Nat → Nat → Option Value
  | 3, 0 => some (.int .i64 40)
  | 4, 0 => some (.int .i64 12)
  | 5, 0 => some (.int .i64 80)
  | 6, 0 => some (.int .i64 40)
  | 9, 0 => some (.int .i64 8)
  | 13, o => deB64[o]?.map fun n : Nat => .int .u8 n
  | 14, o => pow10tab[o]?.map fun n : Nat => .int .u64 n
  | _, _ => none
structure Glob (w : World) : Prop where
  size : 17 ≤ w.heap.size
  cell : ∀ b o v, gcell b o = some v → w.cell? ⟨b, o, none⟩ = some v
theorem gcell_lt {b o : Nat} {v : Value} (h : gcell b o = some v) : b < 17 := by
  unfold gcell at h
  split at h <;> first | omega | simp at h
theorem Glob.chg {S : Nat → Nat → Prop} {w w' : World} (h : Glob w) (hc : Chg S w w') (hS : ∀ b o, S b o → 17 ≤ b) : Glob w' :=
  ⟨Nat.le_trans h.size hc.size, fun b o v e => (hc.cell b o (Nat.lt_of_lt_of_le (gcell_lt e) h.size) (fun s => by have := hS _ _ s; have := gcell_lt e; omega)).trans (h.cell b o v e)⟩
theorem Glob.no {w w' : World} (h : Glob w) (hc : Chg No w w') : Glob w' := h.chg hc fun _ _ f => f.elim
theorem mulAddVWW_d (zb zo zc xb xo xc n y r : Nat) (w : World) (hn : n < 4611686018427387904) (hy : y < WB) (hr : r < WB)
    (hz : Wr w zb zo n) (hx : ∀ i, i < n → IsW w xb (xo + i)) (hxz : xb ≠ zb ∨ xo = zo ∨ xo + n ≤ zo ∨ zo + n ≤ xo) (k : Nat) :
    Calls Tryz.prog 207 #[.slice (some ⟨zb, zo, none⟩) n zc, .slice (some ⟨xb, xo, none⟩) n xc, .int .u64 y, .int .u64 r] (w.drewN k) fun e w' =>
      ∃ c : Nat, e = .returned (.int .u64 c) ∧ c < WB ∧ Hid (Val w' zb zo n + c * WB ^ n = Val w xb xo n * y + r) ∧ Chg (Rng zb zo n) w w' :=
  (mulAddVWW zb zo zc xb xo xc n y r (w.drewN k) hn hy hr (hz.drewN k) hx hxz).mono fun _ _ ⟨c, h1, h2, h3, h4⟩ => ⟨c, h1, h2, h3, h4.ofDrewN⟩
theorem addMulVVWW_d (zb zo zc xb xo xc yb yo yc n m a : Nat) (w : World) (hn : n < 4611686018427387904) (hm : m < WB) (ha : a < WB)
    (hz : Wr w zb zo n) (hx : ∀ i, i < n → IsW w xb (xo + i)) (hy : ∀ i, i < n → IsW w yb (yo + i))
    (hxz : xb ≠ zb ∨ xo = zo ∨ xo + n ≤ zo ∨ zo + n ≤ xo) (hyz : yb ≠ zb ∨ yo = zo ∨ yo + n ≤ zo ∨ zo + n ≤ yo) (k : Nat) :
    Calls Tryz.prog 229 #[.slice (some ⟨zb, zo, none⟩) n zc, .slice (some ⟨xb, xo, none⟩) n xc, .slice (some ⟨yb, yo, none⟩) n yc, .int .u64 m, .int .u64 a] (w.drewN k) fun e w' =>
      ∃ c : Nat, e = .returned (.int .u64 c) ∧ c < WB ∧ Hid (Val w' zb zo n + c * WB ^ n = Val w xb xo n + Val w yb yo n * m + a) ∧ Chg (Rng zb zo n) w w' :=
  (addMulVVWW zb zo zc xb xo xc yb yo yc n m a (w.drewN k) hn hm ha (hz.drewN k) hx hy hxz hyz).mono fun _ _ ⟨c, h1, h2, h3, h4⟩ => ⟨c, h1, h2, h3, h4.ofDrewN⟩
set_option maxHeartbeats 1000000 in
theorem nat_mulAddWW (z x : Value) (X y r : Nat) (w : World) (hz : Ow w z) (hx : Nt w x X) (hX : Small X) (hy : y < WB) (hr : r < WB) (ax : AlB z x) (hs : 17 ≤ w.heap.size) :
    Calls Tryz.prog 144 #[z, x, .int .u64 y, .int .u64 r] w fun e w' => ∃ s, e = .returned s ∧ Res w w' z s (X * y + r) := by
  obtain ⟨xa, m, xc, rfl, hm, hx0, -⟩ := hx.cases hX
  have hset := nat_setWord z r w hz hr hs
  have Hset := Lib.hid hset
  have Hy := Lib.hid hy
  have Hr := Lib.hid hr
  by_cases hm0 : m = 0
  · subst hm0
    obtain rfl := hx0 rfl
    clear hset hy hr hX hx
    go_enter Tryz.func144, Tryz.ntmps144
    go_wp2_with fail
    refine Hset.out.mono ?_
    rintro e w' ⟨r, rfl, hr⟩
    go_wp2_with fail
    go_ret
    exact ⟨_, rfl, by rw [Nat.zero_mul, Nat.zero_add]; exact hr⟩
  · have c1 : ((m : Int) == 0) = false := by simp; omega
    by_cases hy0 : y = 0
    · subst hy0
      clear hset hy hr hX hx
      go_enter Tryz.func144, Tryz.ntmps144
      go_wp2_with fail
      refine Hset.out.mono ?_
      rintro e w' ⟨r, rfl, hr⟩
      go_wp2_with fail
      go_ret
      exact ⟨_, rfl, by rw [Nat.mul_zero, Nat.zero_add]; exact hr⟩
    · have c2 : ((y : Int) == 0) = false := by simp; omega
      obtain ⟨xb, xo, rfl, hxN, hxv, hxz⟩ := hx.at (by omega)
      have xle := hxN.le
      have em : ((m + 1 : Nat) : Int) = (m : Int) + 1 := by omega
      have hmk := nat_make z (m + 1) w hz (by omega) (by omega) hs
      rw [em] at hmk
      have Hmk := Lib.hid hmk
      have Hx := Lib.hid hxv
      clear hmk em hxv hxz hset hy hr hX hx
      go_enter Tryz.func144, Tryz.ntmps144
      go_wp2_with fail
      refine Hmk.out.mono ?_
      rintro e w1 ⟨b, o, c, rfl, hN, hc, hfrom⟩
      have hle := hN.le
      have alx := Lib.hid (ax.from hfrom hxN (by omega) (by omega))
      have Hfrom := Lib.hid hfrom
      clear hfrom
      have a1 := mulAddVWW_d b o c xb xo xc m y r w1 (by omega) Hy.out Hr.out (by have := hN.wr 0 m (by omega); rwa [Nat.add_zero] at this) (fun i hi => hc.isW _ _ (hxN.isW i (by omega))) (by have := alx.out; omega)
      have A1 := Lib.hid a1
      clear a1
      have i1 : (m : Int) ≤ c := by omega
      have i2 : (m : Int) < (m : Int) + 1 := by omega
      go_wp2_with fail
      refine (A1.out 0).mono ?_
      rintro e w2 ⟨d, rfl, hd, hv, hc2⟩
      have hwm : IsW w2 b (o + m) := hc2.isW _ _ (hN.isW m (by omega))
      have cz := hwm.cell
      have fz := (hc2.plain _ hN.plain).free (o + m)
      have Hd := Lib.hid hd
      clear hd
      go_wp2_with fail
      have h4 := Chg.setW (S := Rng b o c) (hc2.mono (fun x p _ h => ⟨h.1, h.2.1, by have := h.2.2; omega⟩)) hwm (n := d) Hd.out (fun _ => ⟨rfl, by omega, by omega⟩)
      refine (nat_norm b o (m + 1) c _ (hN.chg h4) (by omega)).mono ?_
      rintro e w4 ⟨k, rfl, hr, hk, rfl⟩
      go_wp2_with fail
      go_ret
      have e1 : Val w1 xb xo m = X := by rw [← Hx.out]; exact Val_congr fun i hi => wd_congr (hc.cell _ _ hxN.lt (fun f => f))
      rw [Val_set hwm, hv.out, e1] at hr
      exact ⟨_, rfl, Hfrom.out.res hc h4 hr.nt (fun x p h => h)⟩
theorem Val_zero {w : World} {b o : Nat} : ∀ n, (∀ i, i < n → wd w b (o + i) = 0) → Val w b o n = 0
  | 0, _ => rfl
  | n + 1, h => by rw [Val_succ, Val_zero n (fun i hi => h i (by omega)), h n (by omega), Nat.zero_mul]
theorem alg_bm {V0 V1 X Y P V2 d c Q R : Nat} (h1 : V0 + P * V1 = X * Y) (h2 : V2 + c * Q = V1 + X * d + 0) (hR : R = P * Q) : V0 + P * V2 + c * R = X * (Y + d * P) := by
  subst hR
  have : P * (V2 + c * Q) = P * (V1 + X * d) := by rw [h2, Nat.add_zero]
  grind
set_option maxRecDepth 100000 in
set_option maxHeartbeats 2000000 in
theorem basicMul (zb zo zl zc xb xo m xc yb yo n yc : Nat) (w : World) (hz : NW w zb zo zl zc) (hl : m + n ≤ zl) (hx : NW w xb xo m xc) (hy : NW w yb yo n yc) (hm : m < 1048576) (hn : n < 1048576) (hm0 : 0 < m) (hxz : xb ≠ zb) (hyz : yb ≠ zb) :
    Calls Tryz.prog 165 #[.slice (some ⟨zb, zo, none⟩) zl zc, .slice (some ⟨xb, xo, none⟩) m xc, .slice (some ⟨yb, yo, none⟩) n yc] w fun e w' =>
      e = .returned (.tuple #[]) ∧ Val w' zb zo (m + n) = Val w xb xo m * Val w yb yo n ∧ Chg (Rng zb zo (m + n)) w w' := by
  have zle := hz.le
  have i1 : (m : Int) + n ≤ zc := by omega
  have hcw := hz.wr 0 (m + n) (by omega)
  rw [Nat.add_zero] at hcw
  have en : ((m : Int) + n).toNat = m + n := by omega
  obtain ⟨ci, hi1, hi2, -, -⟩ := info_of info149
  go_enter Tryz.func165, Tryz.ntmps165
  go_wp2_with (refine wpList_clearW rfl (.tmp 14) 85 rfl 149 ci Tryz.underlying85 hi1 hi2 _ (m + n) zc rfl (fun _ => ⟨zb, zo, rfl, hcw⟩) ?_; intro w1 hc1 _ hv1)
  have hc1 := hc1 zb zo rfl
  have hv1 := Lib.hid (hv1.out zb zo rfl)
  go_wp2_with fail
  go_loopw [17] (fun i wr => ∃ k : Nat, k ≤ n ∧ i = .int .i64 k ∧ Hid (Val wr zb zo (m + k) = Val w xb xo m * Val w yb yo k) ∧ Hid (∀ j, m + k ≤ j → j < m + n → wd wr zb (zo + j) = 0) ∧ Hid (Chg (Rng zb zo (m + n)) w wr)) (fun i _ => n - (intOf i).toNat)
  case atStart =>
    exact ⟨0, by omega, rfl, Lib.hid (by rw [Val_zero _ (fun i hi => hv1.out i (by omega))]; simp [Val, V]), Lib.hid (fun j _ h => hv1.out j h), Lib.hid hc1⟩
  case round =>
    obtain ⟨k, hk, rfl, hV, hZ, hC⟩ := hrel
    by_cases hlt : k < n
    · have hC' := hC.out
      have hyk := hy.isW k (by have := hy.le; omega)
      have cy : wr.cell? ⟨yb, yo + k, none⟩ = some (.int .u64 (wd w yb (yo + k) : Nat)) := (hC'.cell _ _ hyk.block (by unfold Rng; omega)).trans hyk.cell
      have j1 : (k : Int) < (n : Int) := by omega
      have ez := hZ.out (m + k) (by omega) (by omega)
      have hwmk := hz.isW (m + k) (by omega)
      by_cases hd : wd w yb (yo + k) = 0
      · rw [hd] at cy
        go_wp2_with fail
        go_roundw
        case rel =>
          refine ⟨k + 1, by omega, by go_num, Lib.hid ?_, Lib.hid (fun j h1 h2 => hZ.out j (by omega) h2), Lib.hid hC'⟩
          rw [← Nat.add_assoc, Val_succ, Val_succ w, hd, Nat.zero_mul, Nat.add_zero, ← hV.out]
          show Val wr zb zo (m + k) + wd wr zb (zo + (m + k)) * _ = _
          rw [ez, Nat.zero_mul, Nat.add_zero]
        case measure => simp [intOf]; omega
      · have cd : (((wd w yb (yo + k) : Nat) : Int) != 0) = true := by simp; omega
        have hwr : Wr wr zb (zo + k) m := (hz.chg hC').wr k m (by omega)
        have a1 := addMulVVWW_d zb (zo + k) (zc - k) zb (zo + k) (zc - k) xb xo xc m (wd w yb (yo + k)) 0 wr (by omega) hyk.lt (by decide) hwr hwr.isW (fun i hi => hC'.isW _ _ (hx.isW i (by have := hx.le; omega))) (by omega) (by omega)
        have A1 := Lib.hid a1
        clear a1
        have k1 : ¬ zc = k := by omega
        have k2 : (k : Int) ≤ (m : Int) + k := by omega
        have k3 : (m : Int) + k ≤ zc := by omega
        have k4 : (m : Int) + k < zl := by omega
        have HW := Lib.hid (hC'.isW _ _ hwmk)
        have HP := Lib.hid (hC'.plain _ hz.plain)
        have k5 : ((m : Int) + k).toNat = m + k := by omega
        have k6 : (k : Int) ≤ (k : Int) + m := by omega
        have k7 : (k : Int) + m ≤ zc := by omega
        have k8 : ((k : Int) + m - k).toNat = m := by omega
        have k9 : ((m : Int) + k - k).toNat = m := by omega
        have k10 : ((k : Int) + m).toNat = k + m := by omega
        have e1 : IntKind.i64.wrap ((m : Int) + k) = (m : Int) + k := IntWalk.i64_in _ (by omega)
        have e2 : IntKind.i64.wrap ((k : Int) + m) = (k : Int) + m := IntWalk.i64_in _ (by omega)
        clear hC'
        go_wp2_with fail
        go_region_with (go_at_call 229; refine (A1.out _).mono ?_; rintro e w2 ⟨c, rfl, hc, hv, hc2⟩; have cz := (hc2.isW _ _ HW.out).cell; have fz := (hc2.plain _ HP.out).free (zo + (m + k)))
        clear e1 e2
        go_wp2_with fail
        go_roundw
        case rel =>
          have hwm2 : IsW w2 zb (zo + (m + k)) := hc2.isW _ _ HW.out
          refine ⟨k + 1, by omega, by go_num, Lib.hid ?_, Lib.hid (fun j h1 h2 => ?_), Lib.hid ?_⟩
          · rw [show m + (k + 1) = m + k + 1 from rfl, Val_set hwm2]
            have e0 : Val w2 zb zo (m + k) = Val wr zb zo k + WB ^ k * Val w2 zb (zo + k) m := by
              rw [Nat.add_comm m k, Val_split, show Val w2 zb zo k = Val wr zb zo k from Val_congr fun i hi => wd_congr (hc2.cell _ _ HW.out.block (by unfold Rng; omega))]
            rw [e0, Val_succ w]
            have h1 := hV.out
            rw [Nat.add_comm m k, Val_split] at h1
            have ex : Val wr xb xo m = Val w xb xo m := Val_congr fun i hi => wd_congr (hC.out.cell _ _ hx.lt (by unfold Rng; omega))
            have h2 := hv.out
            rw [ex] at h2
            exact alg_bm h1 h2 (by rw [← Nat.pow_add, Nat.add_comm])
          · rw [wd_setCell_ne (w := w2) (.inr (by omega)), ← hZ.out j (by omega) h2]
            exact wd_congr (hc2.cell _ _ HW.out.block (by unfold Rng; omega))
          · exact Chg.setW (hC.out.then hc2 (fun x p _ h => ⟨h.1, by have := h.2.1; omega, by have := h.2.2; omega⟩)) hwm2 hc (fun _ => ⟨rfl, by omega, by omega⟩)
        case measure => simp [intOf]; omega
    · have hkn : k = n := by omega
      subst hkn
      go_wp2_with fail
      go_end0
      refine ⟨rfl, ?_, ?_⟩
      · exact hV.out
      · exact hC.out
theorem pow_mono {X k m : Nat} (hk : k ≤ m) (h : X < WB ^ k) : X < WB ^ m := Nat.lt_of_lt_of_le h (Nat.pow_le_pow_right WB_pos hk)
theorem small_of {X k : Nat} (hk : k ≤ 1000) (h : X < WB ^ k) : Small X := by
  unfold Small
  exact pow_mono (m := 1000) hk h
theorem Glob.drewN {w : World} (h : Glob w) (k : Nat) : Glob (w.drewN k) := ⟨h.size, h.cell⟩
theorem Ow.drewN {w : World} {z : Value} (h : Ow w z) (k : Nat) : Ow (w.drewN k) z := h.chg ((Chg.refl No w).drewN k)
theorem Res.ofDrewN {w w' : World} {z r : Value} {R k : Nat} (h : Res (w.drewN k) w' z r R) : Res w w' z r R := ⟨h.nt, h.fp, h.chg.ofDrewN⟩
theorem Res.sub {w w' : World} {z z' r : Value} {R : Nat} (h : Res w w' z' r R) (hs : ∀ b o, Fp z' b o → Fp z b o) : Res w w' z r R := ⟨h.nt, fun b o f => (h.fp b o f).imp (hs b o) id, h.chg.mono fun b o _ f => hs b o f⟩
theorem AlB.ab {z : Value} {xb xo n c : Nat} {w : World} (h : AlB z (.slice (some ⟨xb, xo, none⟩) n c)) (hx : NW w xb xo n c) (hn : 0 < n) (ha : Apart z (.slice (some ⟨xb, xo, none⟩) n c)) : Ab z (.slice (some ⟨xb, xo, none⟩) n c) := by
  rcases h with ⟨b, o, n', m', c', h1, h2⟩ | h
  · cases h1; cases h2
    have := hx.le
    exact absurd (show Fp (.slice (some ⟨xb, xo, none⟩) n c) xb xo from ⟨rfl, Nat.le_refl _, by simp; omega⟩) (ha xb xo ⟨rfl, Nat.le_refl _, by simp; omega⟩)
  · exact h
theorem Ab.nil (x : Value) : Ab (.slice none 0 0) x := fun _ _ _ _ f => f.elim
/-- A result 0 in the receiver's place. -/
theorem res_cut0 {w : World} {z : Value} (hz : Ow w z) : Res w w z (cut0 z) 0 := ⟨Nt.cut0 hz, fun _ _ f => .inl f.cut0, Chg.refl _ _⟩
theorem Ab.from {w w' : World} {z : Value} {b o c xb xo xn xc : Nat} (h : Ab z (.slice (some ⟨xb, xo, none⟩) xn xc)) (hf : From w w' z b o c) (hx : NW w xb xo xn xc) (h0 : 0 < xn) (h1 : 0 < c) : xb ≠ b := by
  have := hx.le
  rcases hf with ⟨_, m, rfl⟩ | rfl
  · exact fun e => h b o xb xo ⟨rfl, Nat.le_refl _, by simp; omega⟩ ⟨rfl, Nat.le_refl _, by simp; omega⟩ e.symm
  · exact Nat.ne_of_lt hx.lt
theorem NtAt.drewN {w : World} {b o n c X : Nat} (h : NtAt w b o n c X) (k : Nat) : NtAt (w.drewN k) b o n c X := ⟨h.1.drewN k, h.2.1, h.2.2⟩
theorem Nt.drewN {w : World} {x : Value} {X : Nat} (h : Nt w x X) (k : Nat) : Nt (w.drewN k) x X := h.chg ((Chg.refl No w).drewN k) fun _ _ _ f => f
theorem mul_tail0 (z : Value) (xb xo m xc yb yo n yc X Y : Nat) (w : World) (hz : Ow w z) (hx : NtAt w xb xo m xc X) (hy : NtAt w yb yo n yc Y) (hn0 : 0 < n) (hnm : n ≤ m) (hm : m ≤ 1000) (ax : Ab z (.slice (some ⟨xb, xo, none⟩) m xc)) (ay : Ab z (.slice (some ⟨yb, yo, none⟩) n yc)) (hg : Glob w) :
    Calls Tryz.prog 158 #[z, .int .i64 ((m : Int) + n)] w fun e w1 => ∃ b o c : Nat, e = .returned (.slice (some ⟨b, o, none⟩) (m + n) c) ∧ w1.cell? ⟨3, 0, none⟩ = some (.int .i64 40) ∧
      Calls Tryz.prog 165 #[.slice (some ⟨b, o, none⟩) (m + n) c, .slice (some ⟨xb, xo, none⟩) m xc, .slice (some ⟨yb, yo, none⟩) n yc] w1 fun e w2 => e = .returned (.tuple #[]) ∧
        Calls Tryz.prog 147 #[.slice (some ⟨b, o, none⟩) (m + n) c] w2 fun e w3 => ∃ r, e = .returned r ∧ Res w w3 z r (X * Y) := by
  have h := nat_make z (m + n) w hz (by omega) (by omega) hg.size
  rw [show ((m + n : Nat) : Int) = (m : Int) + n by omega] at h
  refine h.mono ?_
  rintro e w1 ⟨b, o, c, rfl, hN, hc, hfrom⟩
  refine ⟨b, o, c, rfl, (hg.no hc).cell 3 0 _ rfl, ?_⟩
  have hle := hN.le
  refine (basicMul b o (m + n) c xb xo m xc yb yo n yc w1 hN (by omega) (hx.1.chg hc) (hy.1.chg hc) (by omega) (by omega) (by omega) (ax.from hfrom hx.1 (by omega) (by omega)) (ay.from hfrom hy.1 (by omega) (by omega))).mono ?_
  rintro e w2 ⟨rfl, hv, hc2⟩
  refine ⟨rfl, ?_⟩
  refine (nat_norm b o (m + n) c w2 (hN.chg hc2) (by omega)).mono ?_
  rintro e w3 ⟨k, rfl, hr, hk, rfl⟩
  refine ⟨_, rfl, hfrom.res hc (hc2.mono fun x p _ h => ⟨h.1, h.2.1, by have := h.2.2; omega⟩) ?_ fun x p h => h⟩
  have e1 : Val w1 xb xo m = X := by rw [← hx.2.1]; exact Val_congr fun i hi => wd_congr (hc.cell _ _ hx.1.lt (fun f => f))
  have e2 : Val w1 yb yo n = Y := by rw [← hy.2.1]; exact Val_congr fun i hi => wd_congr (hc.cell _ _ hy.1.lt (fun f => f))
  rw [hv, e1, e2] at hr
  exact hr.nt
theorem mul_tail (z : Value) (xb xo m xc yb yo n yc X Y : Nat) (w : World) (hz : Ow w z) (hx : NtAt w xb xo m xc X) (hy : NtAt w yb yo n yc Y) (hn0 : 0 < n) (hnm : n ≤ m) (hm : m ≤ 1000) (ax : Ab z (.slice (some ⟨xb, xo, none⟩) m xc)) (ay : Ab z (.slice (some ⟨yb, yo, none⟩) n yc)) (hg : Glob w) (k : Nat) :
    Calls Tryz.prog 158 #[z, .int .i64 ((m : Int) + n)] (w.drewN k) fun e w1 => ∃ b o c : Nat, e = .returned (.slice (some ⟨b, o, none⟩) (m + n) c) ∧ w1.cell? ⟨3, 0, none⟩ = some (.int .i64 40) ∧
      Hid (Calls Tryz.prog 165 #[.slice (some ⟨b, o, none⟩) (m + n) c, .slice (some ⟨xb, xo, none⟩) m xc, .slice (some ⟨yb, yo, none⟩) n yc] w1 fun e w2 => e = .returned (.tuple #[]) ∧
        Hid (Calls Tryz.prog 147 #[.slice (some ⟨b, o, none⟩) (m + n) c] w2 fun e w3 => ∃ r, e = .returned r ∧ Res w w3 z r (X * Y))) :=
  (mul_tail0 z xb xo m xc yb yo n yc X Y (w.drewN k) (hz.drewN k) (hx.drewN k) (hy.drewN k) hn0 hnm hm ax ay (hg.drewN k)).mono fun _ _ ⟨b, o, c, h1, h2, h3⟩ =>
    ⟨b, o, c, h1, h2, Lib.hid (h3.mono fun _ _ ⟨g1, g2⟩ => ⟨g1, Lib.hid (g2.mono fun _ _ ⟨r, f1, f2⟩ => ⟨r, f1, f2.ofDrewN⟩)⟩)⟩
set_option maxRecDepth 100000 in
set_option maxHeartbeats 1000000 in
theorem nat_mul_ge (z s : Value) (xb xo m xc yb yo n yc X Y : Nat) (w : World) (hz : Ow w z) (hx : NtAt w xb xo m xc X) (hy : NtAt w yb yo n yc Y) (hn0 : 1 < n) (hnm : n ≤ m) (hn : n < 40) (hm : m ≤ 1000) (ax : AlB z (.slice (some ⟨xb, xo, none⟩) m xc)) (ay : AlB z (.slice (some ⟨yb, yo, none⟩) n yc)) (hg : Glob w) :
    Calls Tryz.prog 99 #[z, s, .slice (some ⟨xb, xo, none⟩) m xc, .slice (some ⟨yb, yo, none⟩) n yc] w fun e w' => ∃ r, e = .returned r ∧ Res w w' z r (X * Y) := by
  have c1 : ¬ (m : Int) < n := by omega
  have c2 : ((m : Int) == 0) = false := by simp; omega
  have c3 : ((n : Int) == 0) = false := by simp; omega
  have c4 : ((n : Int) == 1) = false := by simp; omega
  have c5 : (n : Int) < 40 := by omega
  have A1 := Lib.hid (alias z (.slice (some ⟨xb, xo, none⟩) m xc) w hz hx.nt.ow ax.al)
  have A2 := Lib.hid fun k => alias z (.slice (some ⟨yb, yo, none⟩) n yc) (w.drewN k) (hz.drewN k) (hy.nt.ow.drewN k) ay.al
  have T0 := Lib.hid (mul_tail (.slice none 0 0) xb xo m xc yb yo n yc X Y w (.inl rfl) hx hy (by omega) hnm hm (Ab.nil _) (Ab.nil _) hg)
  have T1 := Lib.hid fun h1 h2 => mul_tail z xb xo m xc yb yo n yc X Y w hz hx hy (by omega) hnm hm (ax.ab hx.1 (by omega) h1) (ay.ab hy.1 (by omega) h2) hg
  clear hx hy ax ay hg
  go_enter Tryz.func99, Tryz.ntmps99
  go_wp2_with fail
  refine A1.out.mono ?_
  rintro e w1 ⟨t1, m1, rfl, h1, rfl⟩
  cases t1
  · go_wp2_with fail
    refine (A2.out _).mono ?_
    rintro e w2 ⟨t2, m2, rfl, h2, rfl⟩
    cases t2
    · have T := Lib.hid (T1.out (h1 rfl) (h2 rfl))
      go_wp2_with fail
      refine (T.out _).mono ?_
      rintro e w3 ⟨b, o, c, rfl, g3, h3⟩
      go_wp2_with fail
      refine h3.out.mono ?_
      rintro e w4 ⟨rfl, h4⟩
      go_wp2_with fail
      refine h4.out.mono ?_
      rintro e w5 ⟨r, rfl, hr⟩
      go_wp2_with fail
      go_ret
      exact ⟨r, rfl, hr⟩
    · go_wp2_with fail
      refine (T0.out _).mono ?_
      rintro e w3 ⟨b, o, c, rfl, g3, h3⟩
      go_wp2_with fail
      refine h3.out.mono ?_
      rintro e w4 ⟨rfl, h4⟩
      go_wp2_with fail
      refine h4.out.mono ?_
      rintro e w5 ⟨r, rfl, hr⟩
      go_wp2_with fail
      go_ret
      exact ⟨r, rfl, hr.sub fun _ _ f => f.elim⟩
  · go_wp2_with fail
    refine (T0.out _).mono ?_
    rintro e w3 ⟨b, o, c, rfl, g3, h3⟩
    go_wp2_with fail
    refine h3.out.mono ?_
    rintro e w4 ⟨rfl, h4⟩
    go_wp2_with fail
    refine h4.out.mono ?_
    rintro e w5 ⟨r, rfl, hr⟩
    go_wp2_with fail
    go_ret
    exact ⟨r, rfl, hr.sub fun _ _ f => f.elim⟩
set_option maxRecDepth 100000 in
set_option maxHeartbeats 1000000 in
theorem nat_mul_ge' (z s x y : Value) (X Y : Nat) (w : World) (hz : Ow w z) (hx : Nt w x X) (hy : Nt w y Y) (hX : Small X) (hY : Y < WB ^ 39) (xa ya : Option Addr) (m xc n yc : Nat) (ex : x = .slice xa m xc) (ey : y = .slice ya n yc) (hnm : n ≤ m) (ax : AlB z x) (ay : AlB z y) (hg : Glob w) :
    Calls Tryz.prog 99 #[z, s, x, y] w fun e w' => ∃ r, e = .returned r ∧ Res w w' z r (X * Y) := by
  have hYS : Small Y := small_of (by decide) hY
  obtain ⟨xa', m', xc', ex', hm, hx0, -⟩ := hx.cases hX
  obtain ⟨ya', n', yc', ey', -, hy0, -⟩ := hy.cases hYS
  rw [ex] at ex'; rw [ey] at ey'
  cases ex'; cases ey'
  subst ex ey
  have c1 : ¬ (m : Int) < n := by omega
  by_cases hn0 : n = 0
  · subst hn0
    have hr := res_cut0 hz
    rw [show (0 : Nat) = X * Y by rw [hy0 rfl, Nat.mul_zero]] at hr
    have Hr := Lib.hid hr
    clear hr hx hy ax ay hg hX hY hYS hx0 hy0
    rcases hz with rfl | ⟨b, o, n', c, rfl, hN⟩
    · go_enter Tryz.func99, Tryz.ntmps99
      go_wp2_with fail
      all_goals go_ret
      all_goals exact ⟨_, rfl, Hr.out⟩
    · go_enter Tryz.func99, Tryz.ntmps99
      go_wp2_with fail
      all_goals go_ret
      all_goals exact ⟨_, rfl, Hr.out⟩
  · obtain ⟨yb, yo, rfl, hyA⟩ := hy.at (by omega)
    obtain ⟨xb, xo, rfl, hxA⟩ := hx.at (by omega)
    have hn39 : n ≤ 39 := len_le hyA.2.2 (by rw [hyA.2.1]; exact hY)
    by_cases hn1 : n = 1
    · subst hn1
      have c2 : ((m : Int) == 0) = false := by simp; omega
      have hw0 := hyA.1.isW 0 (by have := hyA.1.le; omega)
      have cy : w.cell? ⟨yb, yo, none⟩ = some (.int .u64 (wd w yb yo : Nat)) := hw0.cell
      have eY : wd w yb yo = Y := by rw [← hyA.2.1, Val_one]
      rw [eY] at cy
      have hYW : Y < WB := by rw [← eY]; exact hw0.lt
      have A1 := Lib.hid (nat_mulAddWW z (.slice (some ⟨xb, xo, none⟩) m xc) X Y 0 w hz hx hX hYW (by decide) ax hg.size)
      clear hx hy ax ay hg hX hY hYS hx0 hy0 hxA hyA hz hw0 eY hYW
      go_enter Tryz.func99, Tryz.ntmps99
      go_wp2_with fail
      refine A1.out.mono ?_
      rintro e w1 ⟨r, rfl, hr⟩
      go_wp2_with fail
      go_ret
      exact ⟨r, rfl, hr⟩
    · exact nat_mul_ge z s xb xo m xc yb yo n yc X Y w hz hxA hyA (by omega) hnm (by omega) hm ax ay hg
set_option maxHeartbeats 1000000 in
theorem nat_mul (z s x y : Value) (X Y : Nat) (w : World) (hz : Ow w z) (hx : Nt w x X) (hy : Nt w y Y) (hX : X < WB ^ 39) (hY : Y < WB ^ 39) (ax : AlB z x) (ay : AlB z y) (hg : Glob w) :
    Calls Tryz.prog 99 #[z, s, x, y] w fun e w' => ∃ r, e = .returned r ∧ Res w w' z r (X * Y) := by
  have hXS : Small X := small_of (by decide) hX
  have hYS : Small Y := small_of (by decide) hY
  obtain ⟨xa, m, xc, ex, hm, -⟩ := hx.cases hXS
  obtain ⟨ya, n, yc, ey, hn, -⟩ := hy.cases hYS
  by_cases hnm : n ≤ m
  · exact nat_mul_ge' z s x y X Y w hz hx hy hXS hY xa ya m xc n yc ex ey hnm ax ay hg
  · have h := nat_mul_ge' z s y x Y X w hz hy hx hYS hX ya xa n yc m xc ey ex (by omega) ay ax hg
    rw [Nat.mul_comm] at h
    have H := Lib.hid h
    have c1 : (m : Int) < n := by omega
    clear h hz hx hy hX hY ax ay hg hXS hYS
    subst ex ey
    go_enter Tryz.func99, Tryz.ntmps99
    go_wp2_with fail
    refine H.out.mono ?_
    rintro e w1 ⟨r, rfl, hr⟩
    go_wp2_with fail
    go_ret
    exact ⟨r, rfl, hr⟩
theorem divmod_of {q y r X : Nat} (h : q * y + r = X) (hr : r < y) : q = X / y ∧ r = X % y := by
  subst h
  have hy : 0 < y := by omega
  constructor
  · rw [Nat.add_comm, Nat.add_mul_div_right _ _ hy, Nat.div_eq_of_lt hr, Nat.zero_add]
  · rw [Nat.add_comm, Nat.add_mul_mod_self_right, Nat.mod_eq_of_lt hr]
set_option maxRecDepth 100000 in
set_option maxHeartbeats 1000000 in
theorem nat_divW (z x : Value) (X y : Nat) (w : World) (hz : Ow w z) (hx : Nt w x X) (hX : Small X) (hy0 : 0 < y) (hy : y < WB) (ax : AlB z x) (hs : 17 ≤ w.heap.size) :
    Calls Tryz.prog 179 #[z, x, .int .u64 y] w fun e w' => ∃ q, e = .returned (.tuple #[q, .int .u64 (X % y : Nat)]) ∧ Res w w' z q (X / y) := by
  obtain ⟨xa, m, xc, rfl, hm, hx0, -⟩ := hx.cases hX
  have c1 : ((y : Int) == 0) = false := by simp; omega
  by_cases hy1 : y = 1
  · subst hy1
    have A1 := Lib.hid (nat_set z (.slice xa m xc) X w hz hx hX hs)
    clear hx ax hX hx0 hz hy
    go_enter Tryz.func179, Tryz.ntmps179
    go_wp2_with fail
    refine A1.out.mono ?_
    rintro e w1 ⟨r, rfl, hr⟩
    go_wp2_with fail
    go_ret2
    exact ⟨r, by rw [Nat.mod_one]; rfl, by rw [Nat.div_one]; exact hr⟩
  · have c2 : ((y : Int) == 1) = false := by simp; omega
    by_cases hm0 : m = 0
    · subst hm0
      have hr := res_cut0 hz
      have eX := hx0 rfl
      subst eX
      have Hr := Lib.hid hr
      have Hy := Lib.hid hy
      clear hr hx ax hX hx0 hy
      rcases hz with rfl | ⟨b, o, n', c, rfl, hN⟩
      · go_enter Tryz.func179, Tryz.ntmps179
        go_wp2_with fail
        all_goals go_ret2
        all_goals exact ⟨_, by rw [Nat.zero_mod]; rfl, by rw [Nat.zero_div]; exact Hr.out⟩
      · go_enter Tryz.func179, Tryz.ntmps179
        go_wp2_with fail
        all_goals go_ret2
        all_goals exact ⟨_, by rw [Nat.zero_mod]; rfl, by rw [Nat.zero_div]; exact Hr.out⟩
    · have c3 : ((m : Int) == 0) = false := by simp; omega
      obtain ⟨xb, xo, rfl, hxA⟩ := hx.at (by omega)
      have Hmk := Lib.hid (nat_make z m w hz (by omega) (by omega) hs)
      have HX := Lib.hid hxA
      have Hax := Lib.hid ax
      have Hy := Lib.hid hy
      clear hx ax hX hx0 hxA hz hy
      go_enter Tryz.func179, Tryz.ntmps179
      go_wp2_with fail
      refine Hmk.out.mono ?_
      rintro e w1 ⟨b, o, c, rfl, hN, hc, hfrom⟩
      have hle := hN.le
      have hxN := HX.out.1
      have hxle := hxN.le
      have alx := Hax.out.from hfrom hxN (by omega) (by omega)
      have a1 := divWVW b o c xb xo xc m 0 y w1 (by omega) (by omega) Hy.out hy0 (by have := hN.wr 0 m (by omega); rwa [Nat.add_zero] at this) (fun i hi => hc.isW _ _ (hxN.isW i (by omega))) (by omega)
      have A1 := Lib.hid a1
      have Hfrom := Lib.hid hfrom
      clear a1 hfrom alx
      go_wp2_with fail
      refine A1.out.mono ?_
      rintro e w2 ⟨r, rfl, hr, hv, hc2⟩
      have Hv := Lib.hid hv
      clear hv
      go_wp2_with fail
      refine (nat_norm b o m c w2 (hN.chg hc2) (by omega)).mono ?_
      rintro e w3 ⟨k, rfl, hn, hk, rfl⟩
      go_wp2_with fail
      go_ret2
      have e1 : Val w1 xb xo m = X := by rw [← HX.out.2.1]; exact Val_congr fun i hi => wd_congr (hc.cell _ _ HX.out.1.lt (fun f => f))
      have h := Hv.out
      rw [Nat.zero_mul, Nat.add_zero, e1] at h
      obtain ⟨h1, h2⟩ := divmod_of h hr
      rw [h1] at hn
      exact ⟨_, by rw [← h2]; rfl, Hfrom.out.res hc (hc2.mono fun x p _ h => ⟨h.1, h.2.1, by have := h.2.2; omega⟩) hn.nt fun x p h => h⟩
theorem WB_pow (q : Nat) : WB ^ q = 2 ^ (64 * q) := by rw [show WB = 2 ^ 64 by decide, ← Nat.pow_mul]
theorem lsh_fin {w : World} {b o q m t s X : Nat} (hz : ∀ i, i < q → wd w b (o + i) = 0) (h : Val w b (o + q) (m + 1) = X * 2 ^ t) (hs : 64 * q + t = s) : Val w b o (m + q + 1) = X * 2 ^ s := by
  rw [show m + q + 1 = q + (m + 1) by omega, Val_split, Val_zero q hz, h, Nat.zero_add, WB_pow, ← hs, Nat.pow_add]
  grind
set_option maxRecDepth 100000 in
set_option maxHeartbeats 1000000 in
theorem nat_lsh_pos (z : Value) (xb xo m xc X s : Nat) (w : World) (hz : Ow w z) (hx : NtAt w xb xo m xc X) (hm : 0 < m) (hm2 : m ≤ 1000) (hs0 : 0 < s) (hs1 : s < 1000000) (ax : AlB z (.slice (some ⟨xb, xo, none⟩) m xc)) (hs : 17 ≤ w.heap.size) :
    Calls Tryz.prog 100 #[z, .slice (some ⟨xb, xo, none⟩) m xc, .int .u64 s] w fun e w' => ∃ r, e = .returned r ∧ Res w w' z r (X * 2 ^ s) := by
  have c1 : ((s : Int) == 0) = false := by simp; omega
  have c2 : ((m : Int) == 0) = false := by simp; omega
  have hle1 := hx.1.le
  obtain ⟨q, hq⟩ : ∃ q, q = s / 64 := ⟨_, rfl⟩
  obtain ⟨t, ht⟩ : ∃ t, t = s % 64 := ⟨_, rfl⟩
  have hq' : q < 20000 := by omega
  have hmk := nat_make z (m + q + 1) w hz (by omega) (by omega) hs
  rw [show ((m + q + 1 : Nat) : Int) = (m : Int) + q + 1 by omega] at hmk
  have e1 : (s : Int) / 64 = q := by omega
  have e2 : (s : Int) % 64 = t := by omega
  have Hmk := Lib.hid hmk
  have HX := Lib.hid hx
  have Hax := Lib.hid ax
  clear hx hmk hz ax hq ht
  go_enter Tryz.func100, Tryz.ntmps100
  go_wp2_with fail
  refine Hmk.out.mono ?_
  rintro e w1 ⟨b, o, c, rfl, hN, hc, hfrom⟩
  have hle := hN.le
  have hxN := HX.out.1
  have alx := Hax.out.from hfrom hxN (by omega) (by omega)
  have hst : 64 * q + t = s := by omega
  have ht64 : t < 64 := by omega
  have HT := Lib.hid (show ∀ i, i < m → wd w1 xb (xo + i) = wd w xb (xo + i) from fun i hi => wd_congr (hc.cell _ _ hxN.lt (fun f => f)))
  have Halx := Lib.hid alx
  have Hfrom := Lib.hid hfrom
  have hwn := hN.isW (m + q) (by omega)
  have k0 : (m : Int) + q < (m : Int) + q + 1 := by omega
  have k1 : (m : Int) + q - m = q := by omega
  have k2 : (q : Int) ≤ (m : Int) + q := by omega
  have k3 : (m : Int) + q ≤ c := by omega
  have k4 : ((m : Int) + q - q).toNat = m := by omega
  have k5 : ((m : Int) + q).toNat = m + q := by omega
  have k6 : ¬ c = q := by omega
  obtain ⟨ci, hi1, hi2, -, -⟩ := info_of info149
  have hfin : ∀ (w3 w4 : World), Chg (Rng b o c) w1 w3 → Chg (Rng b o q) w3 w4 → (∀ i, i < q → wd w4 b (o + i) = 0) → Val w3 b (o + q) (m + 1) = X * 2 ^ t → ∀ (r : Value) (w5 : World), (∃ k : Nat, r = .slice (some ⟨b, o, none⟩) k c ∧ NtAt w4 b o k c (Val w4 b o (m + q + 1)) ∧ k ≤ m + q + 1 ∧ w4 = w5) → Res w w5 z r (X * 2 ^ s) := by
    rintro w3 w4 h3 h4 hz hv r w5 ⟨k, rfl, hr, hk, rfl⟩
    have e : Val w4 b (o + q) (m + 1) = Val w3 b (o + q) (m + 1) := Val_congr fun i hi => wd_congr (h4.cell _ _ (h3.isW _ _ hwn).block (by unfold Rng; omega))
    rw [lsh_fin hz (e.trans hv) hst] at hr
    exact Hfrom.out.res hc (h3.then h4 fun x p _ h => ⟨h.1, h.2.1, by have := h.2.2; omega⟩) hr.nt fun x p h => h
  have Hfin := Lib.hid hfin
  clear hfin alx hfrom
  by_cases ht0 : t = 0
  · subst ht0
    have hzw : Wr w1 b (o + q) m := hN.wr q m (by omega)
    have hxw : ∀ i, i < m → IsW w1 xb (xo + i) := fun i hi => hc.isW _ _ (hxN.isW i (by omega))
    have H3 : ∀ w2, Chg (Rng b (o + q) m) w1 w2 → Chg (Rng b o c) w1 (w2.setCell ⟨b, o + (m + q), none⟩ (.int .u64 (0 : Nat))) := fun w2 hc2 => Chg.setW (hc2.mono fun x p _ h => ⟨h.1, by have := h.2.1; omega, by have := h.2.2; omega⟩) (hc2.isW _ _ hwn) WB_pos (fun _ => ⟨rfl, by omega, by omega⟩)
    have HW : ∀ w2, Chg (Rng b (o + q) m) w1 w2 → Wr (w2.setCell ⟨b, o + (m + q), none⟩ (.int .u64 (0 : Nat))) b o q := fun w2 hc2 => by have := (hN.chg (H3 w2 hc2)).wr 0 q (by omega); rwa [Nat.add_zero] at this
    have HN : ∀ w2 w4, Chg (Rng b (o + q) m) w1 w2 → Chg (Rng b o q) (w2.setCell ⟨b, o + (m + q), none⟩ (.int .u64 (0 : Nat))) w4 → NW w4 b o (m + q + 1) c := fun w2 w4 hc2 h4 => hN.chg ((H3 w2 hc2).then h4 (fun x p _ h => ⟨h.1, h.2.1, by have := h.2.2; omega⟩))
    have H3 := Lib.hid H3
    have HW := Lib.hid HW
    have HN := Lib.hid HN
    go_wp2_with (first
      | (refine wpList_copyW rfl (.tmp 46) (.tmp 47) 85 85 rfl 149 Tryz.underlying85 (by kernel_rfl) b (o + q) m (c - q) xb xo m xc rfl rfl m (by simp) hxw hzw ?_; intro w2 hc2 hv2; have fz := (hc2.plain _ hN.plain).free (o + (m + q)); have cz := (hc2.isW _ _ hwn).cell; have hcw := HW.out w2 hc2)
      | (refine wpList_clearW rfl (.tmp 68) 85 rfl 149 ci Tryz.underlying85 hi1 hi2 _ q c rfl (fun _ => ⟨b, o, rfl, hcw⟩) ?_; intro w4 hc4 hw4 hz4))
    refine (nat_norm b o (m + q + 1) c w4 (HN.out w2 w4 hc2 (hc4 b o rfl)) (by omega)).mono ?_
    rintro e w5 ⟨k, rfl, hr⟩
    go_wp2_with fail
    go_ret
    refine ⟨_, rfl, Hfin.out _ w4 (H3.out w2 hc2) (hc4 b o rfl) (hz4.out b o rfl) ?_ _ _ ⟨k, rfl, hr⟩⟩
    have hwn3 : IsW w2 b (o + q + m) := by rw [show o + q + m = o + (m + q) by omega]; exact hc2.isW _ _ hwn
    have h := Val_set (v := 0) hwn3
    rw [show o + q + m = o + (m + q) by omega] at h
    rw [h, Nat.zero_mul, Nat.add_zero, Nat.pow_zero, Nat.mul_one, ← HX.out.2.1]
    exact Val_congr2 fun i hi => (hv2.out i hi).trans (HT.out i hi)
  · have c3 : ((t : Int) == 0) = false := by simp; omega
    have a1 := lshVU b (o + q) (c - q) xb xo xc m t w1 (by omega) hm (by omega) ht64 (hN.wr q m (by omega)) (fun i hi => hc.isW _ _ (hxN.isW i (by omega))) (by have := Halx.out; omega)
    have A1 := Lib.hid a1
    clear a1
    go_wp2_with fail
    refine A1.out.mono ?_
    rintro e w2 ⟨cc, rfl, hcc, hv2, hc2⟩
    have h3 : Chg (Rng b o c) w1 (w2.setCell ⟨b, o + (m + q), none⟩ (.int .u64 cc)) := Chg.setW (hc2.mono fun x p _ h => ⟨h.1, by have := h.2.1; omega, by have := h.2.2; omega⟩) (hc2.isW _ _ hwn) hcc (fun _ => ⟨rfl, by omega, by omega⟩)
    have hcw : Wr (w2.setCell ⟨b, o + (m + q), none⟩ (.int .u64 cc)) b o q := by have := (hN.chg h3).wr 0 q (by omega); rwa [Nat.add_zero] at this
    have fz := (hc2.plain _ hN.plain).free (o + (m + q))
    have cz := (hc2.isW _ _ hwn).cell
    have H3 := Lib.hid h3
    have HV := Lib.hid hv2
    clear h3 hv2 hcc
    go_wp2_with (refine wpList_clearW rfl (.tmp 68) 85 rfl 149 ci Tryz.underlying85 hi1 hi2 _ q c rfl (fun _ => ⟨b, o, rfl, hcw⟩) ?_; intro w4 hc4 hw4 hz4)
    refine (nat_norm b o (m + q + 1) c w4 (hN.chg (H3.out.then (hc4 b o rfl) (fun x p _ h => ⟨h.1, h.2.1, by have := h.2.2; omega⟩))) (by omega)).mono ?_
    rintro e w5 ⟨k, rfl, hr⟩
    go_wp2_with fail
    go_ret
    refine ⟨_, rfl, Hfin.out _ w4 H3.out (hc4 b o rfl) (hz4.out b o rfl) ?_ _ _ ⟨k, rfl, hr⟩⟩
    have hwn3 : IsW w2 b (o + q + m) := by rw [show o + q + m = o + (m + q) by omega]; exact hc2.isW _ _ hwn
    have h := Val_set (v := cc) hwn3
    rw [show o + q + m = o + (m + q) by omega] at h
    rw [h, HV.out, ← HX.out.2.1]
    exact congrArg (· * 2 ^ t) (Val_congr2 fun i hi => HT.out i hi)
theorem rsh_val {w : World} {b o q m t X Q R : Nat} (hm : q < m) (hx : Val w b o m = X) (h : Q * 2 ^ t + R = Val w b (o + q) (m - q)) (hR : R < 2 ^ t) (hl : ∀ i, i < m → IsW w b (o + i)) : Q = X / 2 ^ (64 * q + t) := by
  obtain ⟨k, rfl⟩ : ∃ k, m = q + k := ⟨m - q, by omega⟩
  rw [show q + k - q = k by omega] at h
  rw [Val_split, ← h, WB_pow] at hx
  have hlt := Val_lt (w := w) (b := b) (o := o) (n := q) fun i hi => hl i (by omega)
  rw [WB_pow] at hlt
  subst hx
  rw [Nat.pow_add, ← Nat.div_div_eq_div_mul, Nat.add_mul_div_left _ _ (Nat.two_pow_pos _), Nat.div_eq_of_lt hlt, Nat.zero_add, Nat.add_comm, Nat.add_mul_div_right _ _ (Nat.two_pow_pos _), Nat.div_eq_of_lt hR, Nat.zero_add]
set_option maxRecDepth 100000 in
set_option maxHeartbeats 1000000 in
theorem nat_rsh_pos (z : Value) (xb xo m xc X s : Nat) (w : World) (hz : Ow w z) (hx : NtAt w xb xo m xc X) (hm : 0 < m) (hm2 : m ≤ 1000) (hs0 : 0 < s) (hs1 : s < 1000000) (ax : AlB z (.slice (some ⟨xb, xo, none⟩) m xc)) (hs : 17 ≤ w.heap.size) :
    Calls Tryz.prog 148 #[z, .slice (some ⟨xb, xo, none⟩) m xc, .int .u64 s] w fun e w' => ∃ r, e = .returned r ∧ Res w w' z r (X / 2 ^ s) := by
  have c1 : ((s : Int) == 0) = false := by simp; omega
  have hle1 := hx.1.le
  obtain ⟨q, hq⟩ : ∃ q, q = s / 64 := ⟨_, rfl⟩
  obtain ⟨t, ht⟩ : ∃ t, t = s % 64 := ⟨_, rfl⟩
  have hq' : q < 20000 := by omega
  have e1 : (s : Int) / 64 = q := by omega
  have e2 : (s : Int) % 64 = t := by omega
  have hst : 64 * q + t = s := by omega
  have ht64 : t < 64 := by omega
  clear hq ht
  by_cases hqm : m ≤ q
  · have c2 : (m : Int) - q ≤ 0 := by omega
    have hr := res_cut0 hz
    have e0 : X / 2 ^ s = 0 := Nat.div_eq_of_lt (by
      have h1 : X < WB ^ m := by rw [← hx.2.1]; exact Val_lt fun i hi => hx.1.isW i (by omega)
      rw [WB_pow] at h1
      exact Nat.lt_of_lt_of_le h1 (Nat.pow_le_pow_right (by decide) (by omega)))
    rw [← e0] at hr
    have Hr := Lib.hid hr
    clear hr hx ax e0 hst
    rcases hz with rfl | ⟨b, o, n', c, rfl, hN⟩
    · go_enter Tryz.func148, Tryz.ntmps148
      go_wp2_with fail
      all_goals go_ret
      all_goals exact ⟨_, rfl, Hr.out⟩
    · go_enter Tryz.func148, Tryz.ntmps148
      go_wp2_with fail
      all_goals go_ret
      all_goals exact ⟨_, rfl, Hr.out⟩
  have hmk := nat_make z (m - q) w hz (by omega) (by omega) hs
  rw [show ((m - q : Nat) : Int) = (m : Int) - q by omega] at hmk
  have c2 : ¬ (m : Int) - q ≤ 0 := by omega
  have Hmk := Lib.hid hmk
  have HX := Lib.hid hx
  have Hax := Lib.hid ax
  clear hx hmk hz ax
  go_enter Tryz.func148, Tryz.ntmps148
  go_wp2_with fail
  refine Hmk.out.mono ?_
  rintro e w1 ⟨b, o, c, rfl, hN, hc, hfrom⟩
  have hle := hN.le
  have hxN := HX.out.1
  have alx := Hax.out.from hfrom hxN (by omega) (by omega)
  have hx1 : Val w1 xb xo m = X := by rw [← HX.out.2.1]; exact Val_congr fun i hi => wd_congr (hc.cell _ _ hxN.lt (fun f => f))
  have hwx : ∀ i, i < m → IsW w1 xb (xo + i) := fun i hi => hc.isW _ _ (hxN.isW i (by omega))
  have k1 : (m : Int) - ((m : Int) - q) = q := by omega
  have k2 : (q : Int) ≤ m := by omega
  have k3 : ((m : Int) - q).toNat = m - q := by omega
  have k6 : ¬ xc = q := by omega
  have hfin : ∀ (w2 : World) (R : Nat), Chg (Rng b o (m - q)) w1 w2 → Val w2 b o (m - q) * 2 ^ t + R = Val w1 xb (xo + q) (m - q) → R < 2 ^ t → ∀ (r : Value) (w5 : World), (∃ k : Nat, r = .slice (some ⟨b, o, none⟩) k c ∧ NtAt w2 b o k c (Val w2 b o (m - q)) ∧ k ≤ m - q ∧ w2 = w5) → Res w w5 z r (X / 2 ^ s) := by
    rintro w2 R h2 hv hR r w5 ⟨k, rfl, hr, hk, rfl⟩
    rw [rsh_val (by omega) hx1 hv hR hwx, hst] at hr
    exact hfrom.res hc (h2.mono fun x p _ h => ⟨h.1, h.2.1, by have := h.2.2; omega⟩) hr.nt fun x p h => h
  have Hfin := Lib.hid hfin
  have hN0 : Wr w1 b o (m - q) := by have := hN.wr 0 (m - q) (by omega); rwa [Nat.add_zero] at this
  have hxw : ∀ i, i < m - q → IsW w1 xb (xo + q + i) := fun i hi => by rw [Nat.add_assoc]; exact hwx _ (by omega)
  by_cases ht0 : t = 0
  · subst ht0
    clear hfin hx1 hfrom alx
    go_wp2_with (refine wpList_copyW rfl (.tmp 40) (.tmp 45) 85 85 rfl 149 Tryz.underlying85 (by kernel_rfl) b o (m - q) c xb (xo + q) (m - q) (xc - q) rfl rfl (m - q) (by simp) hxw hN0 ?_; intro w2 hc2 hv2)
    refine (nat_norm b o (m - q) c w2 (hN.chg hc2) (by omega)).mono ?_
    rintro e w5 ⟨k, rfl, hr⟩
    go_wp2_with fail
    go_ret
    refine ⟨_, rfl, Hfin.out w2 0 hc2 ?_ (Nat.two_pow_pos _) _ _ ⟨k, rfl, hr⟩⟩
    rw [Nat.pow_zero, Nat.mul_one, Nat.add_zero]
    exact Val_congr2 fun i hi => hv2.out i hi
  · have c3 : ((t : Int) == 0) = false := by simp; omega
    have a1 := rshVU b o c xb (xo + q) (xc - q) (m - q) t w1 (by omega) (by omega) (by omega) ht64 hN0 hxw (by omega)
    have A1 := Lib.hid a1
    clear a1 hfin hx1 hfrom alx
    go_wp2_with fail
    refine A1.out.mono ?_
    rintro e w2 ⟨cc, rfl, hcc, hv2, hc2⟩
    have HV := Lib.hid hv2
    clear hv2 hcc
    go_wp2_with fail
    refine (nat_norm b o (m - q) c w2 (hN.chg hc2) (by omega)).mono ?_
    rintro e w5 ⟨k, rfl, hr⟩
    go_wp2_with fail
    go_ret
    exact ⟨_, rfl, Hfin.out w2 _ hc2 HV.out (Nat.mod_lt _ (Nat.two_pow_pos _)) _ _ ⟨k, rfl, hr⟩⟩
/-- The number of bits. -/
def blen (x : Nat) : Nat := if x = 0 then 0 else Nat.log2 x + 1
theorem blen_of {x k : Nat} (h1 : 2 ^ k ≤ x) (h2 : x < 2 ^ (k + 1)) : blen x = k + 1 := by
  have h0 : x ≠ 0 := by have := Nat.two_pow_pos k; omega
  unfold blen
  rw [if_neg h0]
  have := (Nat.le_log2 h0).2 h1
  have := (Nat.log2_lt h0).2 h2
  omega
theorem or_step {t B : Nat} (k : Nat) (ht : t < 2 ^ B) (hB : B ≤ 64) : ∃ t' : Nat, bits BinOp.or .u64 (t : Int) ((t : Int) / (k : Int)) = (t' : Int) ∧ t ≤ t' ∧ t' < 2 ^ B := by
  have hw : 2 ^ B ≤ WB := by rw [WB_eq]; exact Nat.pow_le_pow_right (by decide) hB
  have h2 : t / k ≤ t := Nat.div_le_self _ _
  refine ⟨t ||| t / k, ?_, Nat.left_le_or, Nat.or_lt_two_pow ht (by omega)⟩
  rw [← Int.natCast_ediv]
  exact bits_or_u64_nat _ _ (Nat.lt_of_lt_of_le ht hw) (Nat.lt_of_le_of_lt h2 (Nat.lt_of_lt_of_le ht hw))
theorem or_step2 {t B : Nat} (k j : Nat) (ht : t < 2 ^ B) (hB : B ≤ 64) : ∃ t' : Nat, bits BinOp.or .u64 (t : Int) ((t : Int) / (k : Int) / (j : Int)) = (t' : Int) ∧ t ≤ t' ∧ t' < 2 ^ B := by
  rw [Int.ediv_ediv_of_nonneg (by omega), ← Int.natCast_mul]
  exact or_step _ ht hB
theorem blen_top {t Y m B P : Nat} (h1 : 2 ^ (B - 1) ≤ t) (h2 : t < 2 ^ B) (h0 : 1 ≤ B) (hY : Y < P) (hP : P = 2 ^ (64 * m)) : blen (Y + t * P) = 64 * m + B := by
  subst hP
  rw [show 64 * m + B = (64 * m + (B - 1)) + 1 by omega]
  apply blen_of
  · rw [Nat.pow_add, Nat.mul_comm]
    have := Nat.mul_le_mul_right (2 ^ (64 * m)) h1
    omega
  · rw [show 64 * m + (B - 1) + 1 = B + 64 * m by omega, Nat.pow_add]
    have := Nat.mul_le_mul_right (2 ^ (64 * m)) h2
    rw [Nat.succ_mul] at this
    omega
set_option maxRecDepth 100000 in
set_option maxHeartbeats 1000000 in
theorem nat_bitLen_pos (xb xo m xc X : Nat) (w : World) (hx : NtAt w xb xo m xc X) (hm : 0 < m) (hm2 : m ≤ 1000) :
    Calls Tryz.prog 194 #[.slice (some ⟨xb, xo, none⟩) m xc] w fun e w' => e = .returned (.int .i64 (blen X)) ∧ Drew w w' := by
  have c1 : (0 : Int) ≤ (m : Int) - 1 := by omega
  have c2 : (m : Int) - 1 < m := by omega
  have c3 : ((m : Int) - 1).toNat = m - 1 := by omega
  have hw := hx.1.isW (m - 1) (by have := hx.1.le; omega)
  obtain ⟨t, ht⟩ : ∃ t, t = wd w xb (xo + (m - 1)) := ⟨_, rfl⟩
  have cx : w.cell? ⟨xb, xo + (m - 1), none⟩ = some (.int .u64 t) := by rw [ht]; exact hw.cell
  have ht0 : t ≠ 0 := by rw [ht]; exact hx.2.2.resolve_left (by omega)
  obtain ⟨b1, b2, b3, b4⟩ := bitLen_spec ht0 (by rw [ht]; exact hw.lt)
  have hX : blen X = 64 * (m - 1) + Lib.bitLen t := by
    rw [← hx.2.1, show m = (m - 1) + 1 by omega, Val_succ, ← ht]
    exact blen_top b3 b4 b2 (Val_lt fun i hi => hx.1.isW i (by have := hx.1.le; omega)) (WB_pow _)
  obtain ⟨B, hB⟩ : ∃ B, B = Lib.bitLen t := ⟨_, rfl⟩
  rw [← hB] at b1 b2 b3 b4 hX
  obtain ⟨t1, e1, l1, g1⟩ := or_step 2 b4 b1
  obtain ⟨t2, e2, l2, g2⟩ := or_step 4 g1 b1
  obtain ⟨t3, e3, l3, g3⟩ := or_step 16 g2 b1
  obtain ⟨t4, e4, l4, g4⟩ := or_step 256 g3 b1
  obtain ⟨t5, e5, l5, g5⟩ := or_step 65536 g4 b1
  obtain ⟨t6, e6, l6, g6⟩ := or_step2 65536 65536 g5 b1
  have hT : Lib.bitLen t6 = B := by
    have hlt : t6 < WB := Nat.lt_of_lt_of_le g6 (by rw [WB_eq]; exact Nat.pow_le_pow_right (by decide) b1)
    obtain ⟨d1, d2, d3, d4⟩ := bitLen_spec (y := t6) (by omega) hlt
    have k1 := blen_of d3 (by rw [show Lib.bitLen t6 - 1 + 1 = Lib.bitLen t6 by omega]; exact d4)
    have k2 := blen_of (Nat.le_trans b3 (by omega : t ≤ t6)) (by rw [show B - 1 + 1 = B by omega]; exact g6)
    omega
  have hlt : t6 < WB := Nat.lt_of_lt_of_le g6 (by rw [WB_eq]; exact Nat.pow_le_pow_right (by decide) b1)
  have HL := Lib.hid (Tryz.bits_Len t6 w (by omega) (by have := hlt; unfold WB at this; omega))
  have hT' : Lib.bitLen (t6 : Int).toNat = B := hT
  simp only [Int.cast_ofNat_Int] at e1 e2 e3 e4 e5 e6
  have HX := Lib.hid hX
  have HT := Lib.hid hT'
  have i1 : ((m : Int) - 1) * 64 + B < 100000 := by omega
  clear hx hw ht hT hT' hX ht0 b3 b4 b2 l1 l2 l3 l4 l5 l6 g1 g2 g3 g4 g5 g6 hlt hB
  go_enter Tryz.func194, Tryz.ntmps194
  go_wp2_with fail
  refine HL.out.mono ?_
  rintro e w' ⟨rfl, rfl⟩
  rw [HT.out]
  go_wp2_with fail
  go_ret
  refine ⟨?_, ?_⟩
  · rw [HX.out]
    have e : (((m : Int) - 1) * 64 + B) = ((64 * (m - 1) + B : Nat) : Int) := by omega
    exact congrArg (fun i : Int => Ending.returned (.int .i64 i)) e
  · repeat (first | exact Drew.refl _ | refine Drew.drewN ?_ _ | refine Drew.drew ?_)
theorem nat_bitLen (x : Value) (X : Nat) (w : World) (hx : Nt w x X) (hX : Small X) :
    Calls Tryz.prog 194 #[x] w fun e w' => e = .returned (.int .i64 (blen X)) ∧ Drew w w' := by
  obtain ⟨xa, m, xc, rfl, hm, hx0, -⟩ := hx.cases hX
  by_cases hm0 : m = 0
  · subst hm0
    obtain rfl := hx0 rfl
    clear hx hX
    go_enter Tryz.func194, Tryz.ntmps194
    go_wp2_with fail
    go_ret
    exact ⟨rfl, by repeat (first | exact Drew.refl _ | refine Drew.drewN ?_ _ | refine Drew.drew ?_)⟩
  · obtain ⟨xb, xo, rfl, hxA⟩ := hx.at (by omega)
    exact nat_bitLen_pos xb xo m xc X w hxA (by omega) hm
theorem nat_setUint64 (z : Value) (x : Nat) (w : World) (hz : Ow w z) (hx : x < WB) (hs : 17 ≤ w.heap.size) :
    Calls Tryz.prog 116 #[z, .int .u64 x] w fun e w' => ∃ r, e = .returned r ∧ Res w w' z r x := by
  have A := Lib.hid (nat_setWord z x w hz hx hs)
  have HX := Lib.hid hx
  have c1 : ((x : Int) == x) = true := by simp
  clear hx hz
  go_enter Tryz.func116, Tryz.ntmps116
  go_wp2_with fail
  refine A.out.mono ?_
  rintro e w1 ⟨r, rfl, hr⟩
  go_wp2_with fail
  go_ret
  exact ⟨r, rfl, hr⟩
set_option maxHeartbeats 1000000 in
/-- same: true only of one array with one length. -/
theorem nat_same (z x : Value) (w : World) (hz : Ow w z) (hx : Ow w x) (hal : AlB z x) :
    Calls Tryz.prog 171 #[z, x] w fun e w' => ∃ (t : Bool) (m : Nat), e = .returned (.bool t) ∧ (t = true → ∃ b o n c, 0 < n ∧ z = .slice (some ⟨b, o, none⟩) n c ∧ x = z) ∧ (t = false → ∀ b o n c c', z = .slice (some ⟨b, o, none⟩) n c → x = .slice (some ⟨b, o, none⟩) n c' → n = 0) ∧ w' = w.drewN m := by
  have hz' : ∃ (a : Option Addr) (n c : Nat), z = .slice a n c ∧ n ≤ maxLen ∧ (0 < n → ∃ b o, a = some ⟨b, o, none⟩ ∧ NW w b o n c) := by
    rcases hz with rfl | ⟨b, o, n, c, rfl, hn⟩
    · exact ⟨none, 0, 0, rfl, by omega, fun h => absurd h (by omega)⟩
    · exact ⟨_, n, c, rfl, Nat.le_trans hn.le hn.max, fun _ => ⟨b, o, rfl, hn⟩⟩
  have hx' : ∃ (a : Option Addr) (n c : Nat), x = .slice a n c ∧ n ≤ maxLen ∧ (0 < n → ∃ b o, a = some ⟨b, o, none⟩ ∧ NW w b o n c) := by
    rcases hx with rfl | ⟨b, o, n, c, rfl, hn⟩
    · exact ⟨none, 0, 0, rfl, by omega, fun h => absurd h (by omega)⟩
    · exact ⟨_, n, c, rfl, Nat.le_trans hn.le hn.max, fun _ => ⟨b, o, rfl, hn⟩⟩
  obtain ⟨za, n, zc, rfl, hnm, hzN⟩ := hz'
  obtain ⟨xa, m, xc, rfl, hmm, hxN⟩ := hx'
  unfold maxLen at hnm hmm
  clear hz hx
  by_cases hne : n = m
  · subst hne
    by_cases hn0 : n = 0
    · subst hn0
      clear hal hzN hxN
      go_enter Tryz.func171, Tryz.ntmps171
      go_wp2_with fail
      go_quiet (fail)
      go_wp2_with fail
      go_ret
      exact ⟨false, _, rfl, fun h => Bool.noConfusion h, fun _ b o n c c' h1 h2 => by cases h1; rfl, rfl⟩
    · obtain ⟨zb, zo, rfl, hN⟩ := hzN (by omega)
      obtain ⟨xb, xo, rfl, hM⟩ := hxN (by omega)
      have i1 : (0 : Int) < n := by omega
      have d1 : decide (0 < n) = true := decide_eq_true (by omega)
      have d2 : (n == n) = true := by simp
      have d3 : ((n : Int) == n) = true := by simp
      have hle := hN.le
      have hle2 := hM.le
      by_cases hs : zb = xb ∧ zo = xo
      · obtain ⟨rfl, rfl⟩ := hs
        have hp : ∀ W : World, (binOp .eql 261 (.pointer (some ⟨zb, zo, none⟩)) (.pointer (some ⟨zb, zo, none⟩))).run Tryz.prog W = .ok (.bool true) W := fun W => eql_same _ W
        have hcc : xc = zc := by
          rcases hal with ⟨b', o', n', m', c', h1, h2⟩ | h
          · cases h1; cases h2; rfl
          · exact absurd rfl (h zb zo zb zo ⟨rfl, Nat.le_refl _, by simp; omega⟩ ⟨rfl, Nat.le_refl _, by simp; omega⟩)
        subst hcc
        clear hal hzN hxN hnm hmm hle hle2
        go_enter Tryz.func171, Tryz.ntmps171
        go_wp2_with fail
        go_quiet (fail)
        go_wp2_with fail
        go_ret
        exact ⟨true, _, rfl, fun _ => ⟨zb, zo, n, xc, by omega, rfl, by simp⟩, fun h => Bool.noConfusion h, rfl⟩
      · have hp : ∀ k : Nat, (binOp .eql 261 (.pointer (some ⟨zb, zo, none⟩)) (.pointer (some ⟨xb, xo, none⟩))).run Tryz.prog (w.drewN k) = .ok (.bool false) (w.drewN k) :=
          fun k => eql_other (fun e => hs (by cases e; exact ⟨rfl, rfl⟩)) hN.plain hM.plain
        clear hal hzN hxN hnm hmm hle hle2
        go_enter Tryz.func171, Tryz.ntmps171
        go_wp2_with fail
        go_quiet (fail)
        go_wp2_with fail
        go_ret
        exact ⟨false, _, rfl, fun h => Bool.noConfusion h, fun _ b o n c c' h1 h2 => by cases h1; cases h2; simp at hs, rfl⟩
  · have d1 : ((n : Int) == m) = false := by simp; omega
    have d2 : (n == m) = false := by simp; omega
    clear hal hzN hxN hnm hmm
    go_enter Tryz.func171, Tryz.ntmps171
    go_wp2_with fail
    go_quiet (fail)
    go_wp2_with fail
    go_ret
    exact ⟨false, _, rfl, fun h => Bool.noConfusion h, fun _ b o n c c' h1 h2 => by cases h1; cases h2; simp at hne, rfl⟩
end Go.Proofs.YtacfhndledcmgaaGreatDoor
