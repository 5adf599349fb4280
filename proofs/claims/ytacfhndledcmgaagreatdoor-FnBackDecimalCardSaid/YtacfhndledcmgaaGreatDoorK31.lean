/- Lemmas for the law FnBackDecimal: Floats of any accuracy, powers of 5, quotients within half a unit. Conditions: those in each theorem; none besides. -/
import Derived.Test.YtacfhndledcmgaaGreatDoorK29
import Derived.Test.YtacfhndledcmgaaGreatDoorK30
import Derived.Test.YtacfhndledcmgaaGreatDoorK28
set_option linter.unusedVariables false
set_option linter.unusedSimpArgs false
namespace Go.Proofs.YtacfhndledcmgaaGreatDoor
open Go.RowKit
/-- A finite Float of value X times 2 to E, with whatever accuracy. -/
structure FlA (ac : Int) (w : World) (base b P M : Nat) (n : Bool) (X : Nat) (E : Int) (xb xo m xc : Nat) : Prop where
  fl : Fl w b P M ac 1 n (.slice (some ⟨xb, xo, none⟩) m xc) (blen X + E)
  nt : NtAt w xb xo m xc (upTo X m)
  m0 : 0 < m
  lo : 64 * (m - 1) < blen X
  hi : blen X ≤ 64 * m
  ne : xb ≠ b
  own : base ≤ xb
theorem FlA.X0 {ac : Int} {w : World} {base b P M : Nat} {n : Bool} {X : Nat} {E : Int} {xb xo m xc : Nat} (h : FlA ac w base b P M n X E xb xo m xc) : X ≠ 0 := by
  intro e; subst e
  have := h.lo
  simp [blen] at this
theorem FlA.lower {ac : Int} {w : World} {base base' b P M : Nat} {n : Bool} {X : Nat} {E : Int} {xb xo m xc : Nat} (h : FlA ac w base b P M n X E xb xo m xc) (hb : base' ≤ base) : FlA ac w base' b P M n X E xb xo m xc :=
  ⟨h.fl, h.nt, h.m0, h.lo, h.hi, h.ne, Nat.le_trans hb h.own⟩
theorem FlA.chg {ac : Int} {S : Nat → Nat → Prop} {w w' : World} {base b P M : Nat} {n : Bool} {X : Nat} {E : Int} {xb xo m xc : Nat} (h : FlA ac w base b P M n X E xb xo m xc) (hc : Chg S w w') (h1 : ∀ o, ¬ S b o) (h2 : ∀ i, ¬ S xb i) : FlA ac w' base b P M n X E xb xo m xc :=
  ⟨h.fl.chg hc h1, h.nt.chg hc (fun i _ => h2 _), h.m0, h.lo, h.hi, h.ne, h.own⟩
set_option maxRecDepth 100000 in
set_option maxHeartbeats 1500000 in
theorem float_CopyA (ac : Int) (b p0 m0 : Nat) (a0 : Int) (f0 : Nat) (n0 : Bool) (e0 : Int) (base x P M : Nat) (n : Bool) (X : Nat) (E : Int) (xb xo m xc : Nat) (w : World) (hz : Fl w b p0 m0 a0 f0 n0 (.slice none 0 0) e0) (hx : FlA ac w base x P M n X E xb xo m xc)
    (hm : m ≤ 1000) (hne : b ≠ x) (hb : xb ≠ b) (hs : 17 ≤ w.heap.size) :
    Calls Tryz.prog 189 #[.pointer (some ⟨b, 0, none⟩), .pointer (some ⟨x, 0, none⟩)] w fun r w' => r = .returned (.pointer (some ⟨b, 0, none⟩)) ∧ ∃ yb yo yc, FlA ac w' w.heap.size b P M n X E yb yo m yc ∧ Chg (Blk b) w w' := by
  have hX0 := hx.X0
  obtain ⟨hx1, hxn, hx2, hx3, hx4, hx5, hx6⟩ := hx
  have hp := fun (W : World) (h1 : Plain W b) (h2 : Plain W x) => neq_fother (a := ⟨b, 0, none⟩) (b := ⟨x, 0, none⟩) (w := W) (by intro e; cases e; exact hne rfl) h1 h2
  have hp0 := hp w hz.plain hx1.plain
  have s1 := hz.set0 P
  have t1 := hz.put0 (Chg.refl (Blk b) w) P (fun _ => rfl)
  have s2 := s1.set1 M hx1.m8
  have t2 := s1.put1 t1 M hx1.m8 (fun _ => rfl)
  have s3 := s2.set2 ac
  have t3 := s2.put2 t2 ac (fun _ => rfl)
  have s4 := s3.set3 1 (by omega)
  have t4 := s3.put3 t3 1 (by omega) (fun _ => rfl)
  have s5 := s4.set4 n
  have t5 := s4.put4 t4 n (fun _ => rfl)
  have H2 := Lib.hid (nat_set_d (.slice none 0 0) (.slice (some ⟨xb, xo, none⟩) m xc) _ _ (.inl rfl) (hxn.chg t5 (fun i hi => hb)).nt (small_words (upTo_lt hX0 hx4) hm) (Nat.le_trans hs t5.size))
  have HZ := Lib.hid hz.lt
  have S5 := Lib.hid s5
  have T5 := Lib.hid t5
  obtain ⟨c0, c1, c2, c3, c4, c5, c6, -, hpl, -, -, -⟩ := hz
  have g0 := hpl.free 0
  have g1 := hpl.free 1
  have g2 := hpl.free 2
  have g3 := hpl.free 3
  have g4 := hpl.free 4
  obtain ⟨d0, d1, d2, d3, d4, d5, d6, -, -, -, -, -⟩ := hx1
  have hne2 : ¬ x = b := fun e => hne e.symm
  clear hp hpl s1 s2 s3 s4 s5 t1 t2 t3 t4 t5 hxn
  go_enter Tryz.func189, Tryz.ntmps189
  go_wp2_with fail
  have d6' := T5.out.cell x 6 (World.block_lt_of_cell? _ _ d6) hne2
  rw [d6] at d6'
  have D6 := Lib.hid d6'
  clear d6'
  go_region_with (go_at_call 156; refine (H2.out _).mono ?_; rintro e w3 ⟨r, rfl, hr⟩; obtain ⟨ra, rn, rc, rfl⟩ := hr.nt.sl; have F5 := S5.out.chg hr.chg (fun _ f => f); have c5' := F5.c5; have f5' := F5.plain.free 5; have HR := Lib.hid hr; have HF5 := Lib.hid F5; clear hr F5)
  all_goals
    obtain ⟨yb, yo, rfl, hN, hm0⟩ : ∃ yb yo, ra = some ⟨yb, yo, none⟩ ∧ NtAt w3 yb yo rn rc (upTo X m) ∧ 0 < rn := by
      have hu0 : upTo X m ≠ 0 := by have := upTo_ge hX0 hx4; have := Nat.two_pow_pos (64 * m - 1); omega
      rcases HR.out.nt with ⟨_, h⟩ | ⟨xb, xo, m, xc, h, hn, h2, h3⟩
      · exact absurd h hu0
      · cases h
        refine ⟨xb, xo, rfl, ⟨hn, h2, h3⟩, ?_⟩
        rcases Nat.eq_zero_or_pos rn with e | e
        · subst e; exact absurd h2.symm hu0
        · exact e
    obtain rfl : rn = m := by
      have l := blen_words hN hm0
      rw [blen_upTo hX0 hx2 hx4] at l
      omega
    have hyb : w.heap.size ≤ yb := by
      rcases HR.out.fp yb yo ⟨rfl, Nat.le_refl _, by have := hN.1.le; simp; omega⟩ with f | f
      · exact f.elim
      · have := T5.out.size; omega
    have hneb : yb ≠ b := by have := HZ.out; omega
    have K1 := Lib.hid (HF5.out.put5 (T5.out.then HR.out.chg (fun _ _ _ f => f.elim)) (.slice (some ⟨yb, yo, none⟩) rn rc) (fun _ => rfl))
    have F6 := Lib.hid (HF5.out.set5 (.slice (some ⟨yb, yo, none⟩) rn rc) ⟨_, _, _, rfl⟩)
    have N6 := hN.chg (HF5.out.put5 (Chg.refl (Blk b) w3) (.slice (some ⟨yb, yo, none⟩) rn rc) (fun _ => rfl)) (fun i hi => hneb)
    have N7 := Lib.hid (N6.chg (F6.out.put6 (Chg.refl (Blk b) _) (blen X + E) (fun _ => rfl)) (fun i hi => hneb))
    have K2 := Lib.hid (F6.out.put6 K1.out (blen X + E) (fun _ => rfl))
    have F7 := Lib.hid (F6.out.set6 (blen X + E))
    have b6 := F6.out.c6
    have g6 := F6.out.plain.free 6
    have d6' := K1.out.cell x 6 (World.block_lt_of_cell? _ _ d6) hne2
    rw [d6] at d6'
    clear hN N6 c5' f5' c0 c1 c2 c3 c4 c5 c6 g0 g1 g2 g3 g4 HF5 HR H2
    go_wp2_with fail
    go_ret
    exact ⟨rfl, yb, yo, rc, ⟨F7.out, N7.out, hx2, hx3, hx4, hneb, hyb⟩, K2.out⟩
set_option maxRecDepth 100000 in
set_option maxHeartbeats 1500000 in
theorem float_SetMantExpA (ac : Int) (b p0 m0 : Nat) (a0 : Int) (f0 : Nat) (n0 : Bool) (e0 : Int) (base x P M : Nat) (n : Bool) (X : Nat) (E E' : Int) (xb xo m xc : Nat) (w : World) (hz : Fl w b p0 m0 a0 f0 n0 (.slice none 0 0) e0) (hx : FlA ac w base x P M n X E xb xo m xc)
    (hm : m ≤ 1000) (hne : b ≠ x) (hb : xb ≠ b) (hP : blen X ≤ P) (hP2 : P < 60000) (hM : M < 6) (hE : -20000 ≤ E) (hE2 : E ≤ 20000) (hE3 : -20000 ≤ E') (hE4 : E' ≤ 20000) (hs : 17 ≤ w.heap.size) :
    Calls Tryz.prog 124 #[.pointer (some ⟨b, 0, none⟩), .pointer (some ⟨x, 0, none⟩), .int .i64 E'] w fun r w' => r = .returned (.pointer (some ⟨b, 0, none⟩)) ∧ ∃ yb yo yc, FlX w' w.heap.size b P M n X (E + E') yb yo m yc ∧ Chg (Blk b) w w' := by
  have H := Lib.hid (float_CopyA ac b p0 m0 a0 f0 n0 e0 base x P M n X E xb xo m xc w hz hx hm hne hb hs)
  have HZ := Lib.hid hz.lt
  clear hz hx
  go_enter Tryz.func124, Tryz.ntmps124
  go_wp2_with fail
  refine H.out.mono ?_
  rintro r w1 ⟨rfl, yb, yo, yc, h1, h2⟩
  have HE := Lib.hid (float_setExp_exact b P M _ _ _ _ yb yo m yc _ (blen X + E + E') w1 h1.fl h1.nt h1.m0 hm (by have := h1.lo; omega) (by omega) (fun h => upTo_mod hP h1.hi h) h1.ne hM (by omega) (by omega))
  have H1 := Lib.hid h1
  have H2 := Lib.hid h2
  have i1 : 0 ≤ (blen X : Int) := by omega
  have i2 : (blen X : Int) ≤ 60000 := by omega
  obtain ⟨c0, c1, c2, c3, c4, c5, c6, -, hpl, -, -, -⟩ := h1.fl
  clear hpl h1 h2
  go_wp2_with fail
  refine HE.out.mono ?_
  rintro r w5 ⟨rfl, f5, n5, k5⟩
  have F8 := Lib.hid f5
  have N8 := Lib.hid n5
  have K8 := Lib.hid (H2.out.then k5 (fun x o hx f => by
      rcases f with f | f
      · exact f
      · have := f.1; have := H1.out.own; omega))
  clear f5 n5 k5
  go_wp2_with fail
  go_ret
  exact ⟨rfl, yb, yo, yc, ⟨by rw [← Int.add_assoc]; exact F8.out, N8.out, H1.out.m0, H1.out.lo, H1.out.hi, H1.out.ne, H1.out.own⟩, K8.out⟩
set_option maxHeartbeats 2000000 in
theorem float_MinPrecA (ac : Int) (base b P M : Nat) (n : Bool) (X : Nat) (E : Int) (xb xo m xc t O : Nat) (w : World) (h : FlA ac w base b P M n X E xb xo m xc) (hX : X = 2 ^ t * O) (hO : O % 2 = 1) (hm : m ≤ 1000) (hg : Glob w) :
    Calls Tryz.prog 140 #[.pointer (some ⟨b, 0, none⟩)] w fun r w' => r = .returned (.int .u64 (blen O : Nat)) ∧ Drew w w' := by
  obtain ⟨hU, hB⟩ := upTo_odd hX hO h.hi
  have hi := h.hi
  have hT := nat_tz_pos xb xo m xc _ w.drew (h.nt.chg (Chg.refl No w).drew (fun _ _ f => f)) h.m0 hm (hg.drewN 1)
  have HT : Hid (Calls Tryz.prog 204 #[.slice (some ⟨xb, xo, none⟩) m xc] w.drew fun e w' => e = .returned (.int .u64 (64 * m - blen O : Nat)) ∧ Drew w.drew w') := Lib.hid (hT.mono (by
    rintro e w' ⟨k, j, rfl, hk, -, hd⟩
    rw [hU] at hk
    obtain ⟨h1, -⟩ := pow_odd hk hO (by omega)
    exact ⟨by rw [h1], hd⟩))
  have hm0 := h.m0
  obtain ⟨c0, c1, c2, c3, c4, c5, c6, -, -, -, -, -⟩ := h.fl
  obtain ⟨S, hS⟩ : ∃ S, S = 64 * m - blen O := ⟨_, rfl⟩
  rw [← hS] at HT
  obtain ⟨B, hBB⟩ : ∃ B, B = blen O := ⟨_, rfl⟩
  have e1 : IntKind.u64.wrap ((m : Int) * 64 - (S : Int)) = (B : Int) := by rw [IntKind.wrap_u64]; omega
  have e0 : IntKind.u64.wrap (m : Int) = (m : Int) := by rw [IntKind.wrap_u64]; omega
  have e3 : IntKind.u64.wrap ((m : Int) * 64) = (m : Int) * 64 := by rw [IntKind.wrap_u64]; omega
  rw [← hBB]
  clear h hT hg hU hB hX hO hS hBB hi
  go_enter Tryz.func140, Tryz.ntmps140
  go_upto_region 3 with fail
  go_region_with (go_at_call 204; refine HT.out.mono ?_; rintro e w2 ⟨rfl, hd⟩; obtain ⟨kk, rfl⟩ := hd)
  all_goals
    go_wp2_with fail
    go_ret
    exact ⟨rfl, ⟨_, rfl⟩⟩
set_option maxHeartbeats 2000000 in
theorem float_MantExpA (ac : Int) (b p0 m0 : Nat) (a0 : Int) (f0 : Nat) (n0 : Bool) (e0 : Int) (base x P M : Nat) (n : Bool) (X : Nat) (E : Int) (xb xo m xc : Nat) (w : World) (hz : Fl w b p0 m0 a0 f0 n0 (.slice none 0 0) e0) (hx : FlA ac w base x P M n X E xb xo m xc)
    (hm : m ≤ 1000) (hne : b ≠ x) (hb : xb ≠ b) (hs : 17 ≤ w.heap.size) (hE : -20000 ≤ E) (hE2 : E ≤ 20000) :
    Calls Tryz.prog 139 #[.pointer (some ⟨x, 0, none⟩), .pointer (some ⟨b, 0, none⟩)] w fun r w' => r = .returned (.int .i64 (blen X + E)) ∧ ∃ yb yo yc, FlA ac w' w.heap.size b P M n X (-(blen X : Int)) yb yo m yc ∧ Chg (Blk b) w w' := by
  have H := Lib.hid (float_CopyA ac b p0 m0 a0 f0 n0 e0 base x P M n X E xb xo m xc w hz hx hm hne hb hs)
  obtain ⟨c0, c1, c2, c3, c4, c5, c6, -, -, -, -, -⟩ := hx.fl
  have hxi := hx.hi
  obtain ⟨B, hB⟩ : ∃ B : Int, B = blen X + E := ⟨_, rfl⟩
  rw [← hB] at c6 ⊢
  have e1 : IntKind.i64.wrap B = B := IntWalk.i64_in _ (by omega)
  clear hz hx hB hxi
  go_enter Tryz.func139, Tryz.ntmps139
  go_wp2_with fail
  refine H.out.mono ?_
  rintro r w1 ⟨rfl, yb, yo, yc, h1, h2⟩
  have H1 := Lib.hid h1
  have H2 := Lib.hid h2
  have g3 := h1.fl.c3
  have g6 := h1.fl.c6
  have f6 := h1.fl.plain.free 6
  clear h1 h2 c0 c1 c2 c3 c4 c5 c6
  go_wp2_with fail
  go_ret
  have F := H1.out.fl.set6 0
  have K := H1.out.fl.put6 H2.out 0 (fun _ => rfl)
  have k1 := H1.out.fl.put6 (Chg.refl (Blk b) w1) 0 (fun _ => rfl)
  refine ⟨rfl, yb, yo, yc, ⟨by rw [Int.add_right_neg]; exact F, H1.out.nt.chg k1 (fun i hi h => H1.out.ne h), H1.out.m0, H1.out.lo, H1.out.hi, H1.out.ne, H1.out.own⟩, K⟩
set_option maxRecDepth 100000 in
set_option maxHeartbeats 4000000 in
theorem impl_realA (ac : Int) (base b P M : Nat) (n : Bool) (X : Nat) (E : Int) (xb xo m xc t O : Nat) (w : World) (h : FlA ac w base b P M n X E xb xo m xc) (hX : X = 2 ^ t * O) (hO : O % 2 = 1) (hm : m ≤ 1000) (hP : blen X ≤ P) (hP2 : P < 2000) (hM : M < 6) (hE1 : -15000 ≤ E) (hE2 : E ≤ 15000) (hg : Glob w) (h17 : 17 ≤ w.heap.size) :
    Calls Tryz.prog 83 #[.pointer (some ⟨b, 0, none⟩)] w (RealPost P M n O (E + t) w) := by
  have H1 := Lib.hid (fun W (hW : Chg No w W) => float_Prec b P M ac 1 n _ _ W (h.fl.chg hW (fun _ f => f)) (by omega))
  have H2 := Lib.hid (fun W (hW : Chg No w W) => float_Mode b P M ac 1 n _ _ W (h.fl.chg hW (fun _ f => f)))
  have H3 := Lib.hid (fun W (hW : Chg No w W) => float_Signbit b P M ac 1 n _ _ W (h.fl.chg hW (fun _ f => f)))
  have H4 := Lib.hid (fun W (hW : Chg No w W) => float_IsInf b P M ac n _ _ W (h.fl.chg hW (fun _ f => f)))
  have H5 := Lib.hid (fun W (hW : Chg No w W) => float_Sign b P M ac n _ _ W (h.fl.chg hW (fun _ f => f)))
  have K0 := (Chg.refl No w).alloc (.cells #[.int .u64 0, .int .i64 0, .int .i64 0, .bool false, .slice none 0 0, .int .i64 0] 43)
  have HK0 := Lib.hid K0
  have C1 := H1.out _ K0
  have C2 := H2.out _ K0
  have C3 := H3.out _ K0
  have D1 := Lib.hid C1
  have D2 := Lib.hid C2
  have D3 := Lib.hid C3
  have HH := Lib.hid h
  clear C1 C2 C3 K0 h
  go_enter Tryz.func83, Tryz.ntmps83
  go_wp2_with fail
  refine D1.out.mono ?_
  rintro e w1 ⟨rfl, rfl⟩
  go_wp2_with fail
  refine D2.out.mono ?_
  rintro e w1 ⟨rfl, rfl⟩
  have eM : IntKind.i64.wrap (M : Int) = (M : Int) := IntWalk.i64_in _ (by omega)
  go_wp2_with fail
  refine D3.out.mono ?_
  rintro e w1 ⟨rfl, rfl⟩
  go_upto_region 2 with fail
  obtain ⟨W1, hW1⟩ : ∃ W1, W1 = ((w.alloc (.cells #[.int .u64 0, .int .i64 0, .int .i64 0, .bool false, .slice none 0 0, .int .i64 0] 43)).alloc (.cells #[.int .u64 (P : Nat), .int .i64 (M : Nat), .int .i64 0, .bool n, .slice none 0 0, .int .i64 0] 43)) := ⟨_, rfl⟩
  rw [← hW1]
  have K1 : Chg No w W1 := by rw [hW1]; exact ((Chg.refl No w).alloc _).alloc _
  have BR : Bk W1 w.heap.size #[.int .u64 0, .int .i64 0, .int .i64 0, .bool false, .slice none 0 0, .int .i64 0] := by rw [hW1]; exact (Bk.new w _ 43).chg ((Chg.refl No _).alloc _) (fun _ f => f)
  have BO : Bk W1 (w.heap.size + 1) #[.int .u64 (P : Nat), .int .i64 (M : Nat), .int .i64 0, .bool n, .slice none 0 0, .int .i64 0] := by
    have := Bk.new (w.alloc (.cells #[.int .u64 0, .int .i64 0, .int .i64 0, .bool false, .slice none 0 0, .int .i64 0] 43)) #[.int .u64 (P : Nat), .int .i64 (M : Nat), .int .i64 0, .bool n, .slice none 0 0, .int .i64 0] 43
    rw [hW1]; simpa using this
  have hsz : W1.heap.size = w.heap.size + 2 := by rw [hW1]; simp
  have HK1 := Lib.hid K1
  have HBR := Lib.hid BR
  have HBO := Lib.hid BO
  have HSZ := Lib.hid hsz
  have D4 := Lib.hid (H4.out W1 K1)
  have D5 := Lib.hid (H5.out W1 K1)
  clear hW1 K1 BR BO hsz D1 D2 D3 H1 H2 H3 H4 H5 HK0
  go_wp2_with fail
  refine D4.out.mono ?_
  rintro e w2 ⟨rfl, rfl⟩
  have tsn : (((if n then -1 else 1 : Int)) != 0) = true := by cases n <;> rfl
  go_wp2_with fail
  refine D5.out.mono ?_
  rintro e w2 ⟨rfl, rfl⟩
  obtain ⟨sn, hsn⟩ : ∃ sn : Int, sn = if n then -1 else 1 := ⟨_, rfl⟩
  rw [← hsn] at tsn ⊢
  clear hsn
  go_upto_region 6 with fail
  obtain ⟨W2, hW2⟩ : ∃ W2, W2 = W1.alloc (.cells #[.int .u32 0, .int .u8 0, .int .i8 0, .int .u8 0, .bool false, .slice none 0 0, .int .i32 0] 176) := ⟨_, rfl⟩
  rw [← hW2]
  have K12 : Chg No W1 W2 := by rw [hW2]; exact (Chg.refl No W1).alloc _
  have FN : Fl W2 W1.heap.size 0 0 0 0 false (.slice none 0 0) 0 := by rw [hW2]; exact Fl.new W1 (by have := HSZ.out; omega)
  have K2 := HK1.out.then K12 (fun _ _ _ f => f)
  have h2 := HH.out.chg K2 (fun _ f => f) (fun _ f => f)
  have hbl := HH.out.fl.lt
  have hxl := HH.out.nt.1.plain.lt
  have hsz := HSZ.out
  obtain ⟨mb, hmb⟩ : ∃ mb, mb = W1.heap.size := ⟨_, rfl⟩
  rw [← hmb] at FN ⊢
  have hME := float_MantExpA ac mb 0 0 0 0 false 0 base b P M n X E xb xo m xc W2 FN h2 hm (by omega) (by omega) (Nat.le_trans h17 K2.size) (by omega) (by omega)
  have HME := Lib.hid hME
  have HK2 := Lib.hid K2
  have HBR2 := Lib.hid (HBR.out.chg K12 (fun _ f => f))
  have HBO2 := Lib.hid (HBO.out.chg K12 (fun _ f => f))
  have HMB := Lib.hid (And.intro hmb hsz)
  have HBX := Lib.hid (And.intro hbl hxl)
  have HMB2 := Lib.hid FN.lt
  clear hW2 K12 FN K2 h2 hME hmb hsz hbl hxl HBR HBO
  go_wp2_with fail
  refine HME.out.mono ?_
  rintro e w3 ⟨rfl, yb, yo, yc, hy, hk3⟩
  have hmbw : w.heap.size ≤ mb := by have := HMB.out.1; have := HMB.out.2; omega
  have K3 := HK2.out.then hk3 (S := No) (fun x o hx h => by have h1 : x = mb := h; omega)
  have hg3 := hg.no K3
  have hMP := float_MinPrecA ac base b P M n X E xb xo m xc t O w3 (HH.out.chg K3 (fun _ f => f) (fun _ f => f)) hX hO hm hg3
  have HMP := Lib.hid hMP
  have HY := Lib.hid hy
  have HK3 := Lib.hid K3
  have HBR3 := Lib.hid (HBR2.out.chg hk3 (fun o h => by have h1 : w.heap.size = mb := h; have := HMB.out.1; have := HMB.out.2; omega))
  have HBO3 := Lib.hid (HBO2.out.chg hk3 (fun o h => by have h1 : w.heap.size + 1 = mb := h; have := HMB.out.1; have := HMB.out.2; omega))
  have hO0 : O ≠ 0 := by omega
  have hbO : blen X = t + blen O := by rw [hX]; exact blen_pow hO0
  obtain ⟨p, hp⟩ : ∃ p, p = blen O := ⟨_, rfl⟩
  rw [← hp] at HMP
  have hpP : p ≤ P := by omega
  have ep : IntKind.i64.wrap (p : Int) = (p : Int) := IntWalk.i64_in _ (by omega)
  obtain ⟨EE, hEE⟩ : ∃ EE : Int, EE = (blen X : Int) + E := ⟨_, rfl⟩
  rw [← hEE]
  have eE : IntKind.i64.wrap (EE - (p : Int)) = E + t := by rw [IntKind.wrap_i64]; omega
  have hEt : (t : Int) + (-(blen X : Int) + (p : Int)) = 0 := by omega
  have HAR := Lib.hid (And.intro hEt (And.intro hbO hp))
  have HXX := Lib.hid (And.intro hX hO)
  have HP := Lib.hid hP
  have hXP : blen X < 60000 := by omega
  have HXP := Lib.hid hXP
  clear hy hk3 K3 hg3 hMP HBR2 HBO2 HME hO0 hbO hp hEE hEt hX hO hP hXP
  go_wp2_with fail
  refine HMP.out.mono ?_
  rintro e w4 ⟨rfl, hd⟩
  obtain ⟨kk, rfl⟩ := hd
  go_upto_region 8 with fail
  have k34 : Chg No w3 (w3.drewN kk) := (Chg.refl No w3).drewN kk
  have HK4 := Lib.hid (HK3.out.then k34 (fun _ _ _ f => f))
  have HY4 := Lib.hid (HY.out.chg k34 (fun _ f => f) (fun _ f => f))
  have HBR4 := Lib.hid (HBR3.out.chg k34 (fun _ f => f))
  have HBO4 := Lib.hid (HBO3.out.chg k34 (fun _ f => f))
  have hs34 : w3.heap.size = (w3.drewN kk).heap.size := rfl
  generalize w3.drewN kk = w4 at *
  clear k34 HK3 HBR3 HBO3
  obtain ⟨W5, hW5⟩ : ∃ W5, W5 = w4.alloc (.cells #[.int .u32 0, .int .u8 0, .int .i8 0, .int .u8 0, .bool false, .slice none 0 0, .int .i32 0] 176) := ⟨_, rfl⟩
  have K45 : Chg No w4 W5 := by rw [hW5]; exact (Chg.refl No w4).alloc _
  have hs4 := HK4.out.size
  have hmb4 := HY4.out.fl.lt
  have hyb4 := HY4.out.nt.1.plain.lt
  have hsz4 : w.heap.size + 2 ≤ w4.heap.size := by have := HMB.out.1; have := HMB.out.2; omega
  obtain ⟨sb, hsb⟩ : ∃ sb, sb = w4.heap.size := ⟨_, rfl⟩
  have FN : Fl W5 sb 0 0 0 0 false (.slice none 0 0) 0 := by rw [hW5, hsb]; exact Fl.new w4 (by omega)
  have K5 := HK4.out.then K45 (fun _ _ _ f => f)
  have hSM := float_SetMantExpA ac sb 0 0 0 0 false 0 _ mb P M n X (-(blen X : Int)) (p : Int) yb yo m yc W5 FN (HY4.out.chg K45 (fun _ f => f) (fun _ f => f)) hm (by omega) (by omega) HP.out (by omega) hM (by have := HP.out; omega) (by omega) (by omega) (by omega) (Nat.le_trans h17 K5.size)
  have HSM := Lib.hid hSM
  have HK5 := Lib.hid K5
  have HBR5 := Lib.hid (HBR4.out.chg K45 (fun _ f => f))
  have HBO5 := Lib.hid (HBO4.out.chg K45 (fun _ f => f))
  have HSB := Lib.hid (And.intro hsb hsz4)
  have HW5 := Lib.hid hW5
  have HSS : Hid (w4.heap.size ≤ W5.heap.size) := Lib.hid K45.size
  clear hW5 K45 hs4 hmb4 hyb4 hsz4 FN K5 hSM HBR4 HBO4 hsb
  go_wp2_with fail
  rw [← HW5.out, ← HSB.out.1]
  refine HSM.out.mono ?_
  rintro e w6 ⟨rfl, zb, zo, zc, hz, hk6⟩
  have K6 := HK5.out.then hk6 (S := No) (fun x o hx h => by have h1 : x = sb := h; have := HSB.out.1; have := HSB.out.2; omega)
  have hIN := float_Int _ sb P M n X _ zb zo m zc t O w6 hz HXX.out.1 HXX.out.2 HAR.out.1 hm (hg.no K6) (Nat.le_trans h17 K6.size)
  have HIN := Lib.hid hIN
  have HK6 := Lib.hid K6
  have HK67 : Hid (∀ {w7 : World}, Chg No w6 w7 → w.heap.size + 2 ≤ w7.heap.size) := Lib.hid (fun h => by have h1 := h.size; have h2 := hk6.size; have h3 := HSB.out.2; have h4 := HSS.out; omega)
  have HBR6 := Lib.hid (HBR5.out.chg hk6 (fun o h => by have h1 : w.heap.size = sb := h; have := HSB.out.1; have := HSB.out.2; omega))
  have HBO6 := Lib.hid (HBO5.out.chg hk6 (fun o h => by have h1 : w.heap.size + 1 = sb := h; have := HSB.out.1; have := HSB.out.2; omega))
  have HXL := Lib.hid (And.intro hz.lo hz.hi)
  clear hz hk6 K6 hIN HBR5 HBO5 HSM
  go_wp2_with fail
  refine HIN.out.mono ?_
  rintro e w7 ⟨v, rfl, hi7, hn7, hk7⟩
  have K7 := HK6.out.then hk7 (fun _ _ _ f => f)
  have hO0 : O ≠ 0 := by have := HXX.out.2; omega
  have hSO : Small O := by
    have h1 := (blen_spec hO0).2.2
    have h2 : blen O ≤ 64 * m := by have := HXL.out.2; have := HAR.out.2.1; omega
    unfold Small
    obtain ⟨T, hT⟩ : ∃ T : Nat, T = 1000 := ⟨_, rfl⟩
    rw [← hT, WB_two]
    exact Nat.lt_of_lt_of_le h1 (Nat.pow_le_pow_right (by decide) (by omega))
  have HWO := Lib.hid (impl_wordsOf w6.heap.size n v O w7 hi7 hn7 hO0 hSO (Nat.le_trans h17 K7.size))
  have HK7 := Lib.hid K7
  have HFS : Hid (w.heap.size + 2 ≤ w7.heap.size) := Lib.hid (by have h1 := HK67.out hk7; omega)
  have HBR7 := Lib.hid (HBR6.out.chg hk7 (fun _ f => f))
  have HBO7 := Lib.hid (HBO6.out.chg hk7 (fun _ f => f))
  clear hi7 hn7 hk7 K7 hO0 hSO HBR6 HBO6 HIN
  go_wp2_with fail
  refine HWO.out.mono ?_
  rintro e w8 ⟨r, rfl, l, hls, hcan, hvl, hk8, hfp⟩
  obtain ⟨A, c, rfl, hlc⟩ : ∃ A c, r = .slice A l.length c ∧ l.length ≤ c := by
    rcases hls.val with ⟨rfl, rfl⟩ | ⟨b', o', c', rfl, hn, _⟩
    · exact ⟨_, _, rfl, Nat.le_refl _⟩
    · exact ⟨_, _, rfl, hn.le⟩
  have hrd : RdU w8 A l := by
    rcases hls with ⟨h1, rfl⟩ | ⟨b', o', c', h1, hn, hv⟩
    · exact fun i hi => absurd hi (by simp)
    · intro i hi
      cases h1
      refine ⟨_, rfl, ?_⟩
      have h2 := (hn.isI i (by have := hn.le; omega)).cell
      rw [hv i hi] at h2
      unfold Addr.add
      split
      · next h3 =>
        subst h3; simpa using h2
      · exact h2
  have K8 := HK7.out.then hk8 (fun _ _ _ f => f)
  have BR := HBR7.out.chg hk8 (fun _ f => f)
  have BO := HBO7.out.chg hk8 (fun _ f => f)
  have o2 : w8.cell? ⟨w.heap.size + 1, 2, none⟩ = some (.int .i64 0) := BO.cell 2
  have o4 : w8.cell? ⟨w.heap.size + 1, 4, none⟩ = some (.slice none 0 0) := BO.cell 4
  have o5 : w8.cell? ⟨w.heap.size + 1, 5, none⟩ = some (.int .i64 0) := BO.cell 5
  have of := BO.plain.free
  have of2 := of 2
  have of4 := of 4
  have of5 := of 5
  have HF := Lib.hid (And.intro hrd (And.intro hlc (And.intro hcan (And.intro hvl hfp))))
  have HK8 := Lib.hid K8
  have HBR := Lib.hid BR
  have HBO := Lib.hid BO
  clear hls hcan hvl hk8 hfp hlc hrd K8 BR BO of HWO HBR7 HBO7
  go_upto_region 10 with fail
  have b1 := HBO.out.set 2 (.int .i64 1)
  have k1 := HBO.out.set_chg 2 (.int .i64 1) (u := .int .i64 0) rfl ⟨by simp, by simp⟩
  have b2 := b1.set 4 (.slice A l.length c)
  have k2 := b1.set_chg 4 (.slice A l.length c) (u := .slice none 0 0) (by simp) ⟨by simp, by simp⟩
  have b3 := b2.set 5 (.int .i64 (E + t))
  have k3 := b2.set_chg 5 (.int .i64 (E + t)) (u := .int .i64 0) (by simp) ⟨by simp, by simp⟩
  have k9 := (k1.then k2 (fun _ _ _ f => f)).then k3 (fun _ _ _ f => f)
  have hwl := HF.out.1
  generalize ((w8.setCell ⟨w.heap.size + 1, 2, none⟩ (.int .i64 1)).setCell ⟨w.heap.size + 1, 4, none⟩ (.slice A l.length c)).setCell ⟨w.heap.size + 1, 5, none⟩ (.int .i64 (E + t)) = w9 at *
  have hnb : ∀ x o, Fp (.slice A l.length c) x o → x ≠ w.heap.size + 1 ∧ x ≠ w.heap.size := fun x o f => by
    have h1 := HF.out.2.2.2.2 x o f
    have h2 := HK7.out.size
    have h3 := HSB.out.2
    have := HFS.out
    omega
  have BO9 : Bk w9 (w.heap.size + 1) #[.int .u64 (P : Nat), .int .i64 (M : Nat), .int .i64 1, .bool n, .slice A l.length c, .int .i64 (E + t)] := by simpa using b3
  have BR9 := HBR.out.chg k9 (fun o h => by have h1 : w.heap.size = w.heap.size + 1 := h; omega)
  have p0 : w9.cell? ⟨w.heap.size + 1, 0, none⟩ = some (.int .u64 (P : Nat)) := BO9.cell 0
  have p1 : w9.cell? ⟨w.heap.size + 1, 1, none⟩ = some (.int .i64 (M : Nat)) := BO9.cell 1
  have p2 : w9.cell? ⟨w.heap.size + 1, 2, none⟩ = some (.int .i64 1) := BO9.cell 2
  have p3 : w9.cell? ⟨w.heap.size + 1, 3, none⟩ = some (.bool n) := BO9.cell 3
  have p4 : w9.cell? ⟨w.heap.size + 1, 4, none⟩ = some (.slice A l.length c) := BO9.cell 4
  have p5 : w9.cell? ⟨w.heap.size + 1, 5, none⟩ = some (.int .i64 (E + t)) := BO9.cell 5
  have r0 : w9.cell? ⟨w.heap.size, 0, none⟩ = some (.int .u64 0) := BR9.cell 0
  have r1 : w9.cell? ⟨w.heap.size, 1, none⟩ = some (.int .i64 0) := BR9.cell 1
  have r2 : w9.cell? ⟨w.heap.size, 2, none⟩ = some (.int .i64 0) := BR9.cell 2
  have r3 : w9.cell? ⟨w.heap.size, 3, none⟩ = some (.bool false) := BR9.cell 3
  have r4 : w9.cell? ⟨w.heap.size, 4, none⟩ = some (.slice none 0 0) := BR9.cell 4
  have r5 : w9.cell? ⟨w.heap.size, 5, none⟩ = some (.int .i64 0) := BR9.cell 5
  have fr := BR9.plain.free
  have fr0 := fr 0
  have fr1 := fr 1
  have fr2 := fr 2
  have fr3 := fr 3
  have fr4 := fr 4
  have fr5 := fr 5
  have HB9 := Lib.hid BR9
  have HK9 := Lib.hid k9
  have HNB := Lib.hid hnb
  clear b1 b2 b3 k1 k2 k3 k9 BO9 BR9 fr hnb o2 o4 o5 of2 of4 of5
  go_wp2_with fail
  have B10 := HB9.out.sr6 (.int .u64 (P : Nat)) (.int .i64 (M : Nat)) (.int .i64 1) (.bool n) (.slice A l.length c) (.int .i64 (E + t))
  have K10 := HB9.out.sr6_chg (p := 0) (P := P) (by decide) (Nat.lt_trans hP2 (by decide)) ⟨by simp, by simp⟩ ⟨by simp, by simp⟩ ⟨by simp, by simp⟩ ⟨by simp, by simp⟩ ⟨by simp, by simp⟩ (.int .i64 (M : Nat)) (.int .i64 1) (.bool n) (.slice A l.length c) (.int .i64 (E + t))
  have hfp : ∀ ad, A = some ad → 0 < l.length → ad.block ≠ w.heap.size + 1 ∧ ad.block ≠ w.heap.size := fun ad e h0 => by
    subst e
    exact HNB.out ad.block ad.off ⟨rfl, Nat.le_refl _, by show ad.off < ad.off + c; have := HF.out.2.1; omega⟩
  refine bodyPost_ret (v := .agg #[.int .u64 (P : Nat), .int .i64 (M : Nat), .int .i64 1, .bool n, .slice A l.length c, .int .i64 (E + t)]) ?_ rfl ⟨A, c, l, rfl, ?_, HF.out.2.1, HF.out.2.2.1, HF.out.2.2.2.1, ?_, fun ad e h0 => ?_⟩
  · have hres : Tryz.f83.results = #[.cell 2 43] := rfl
    simp [results, hres, asAddr]
    exact load43 _ _ _ _ _ _ _ _ (B10.cell 0) (B10.cell 1) (B10.cell 2) (B10.cell 3) (B10.cell 4) (B10.cell 5)
  · exact (HF.out.1.chgB HK9.out (fun ad e h0 o h => (hfp ad e h0).1 h)).chgB K10 (fun ad e h0 o h => (hfp ad e h0).2 h)
  · exact (HK8.out.then HK9.out (fun x o hx h => by have h1 : x = w.heap.size + 1 := h; omega)).then K10 (fun x o hx h => by have h1 : x = w.heap.size := h; omega)
  · subst e
    exact Nat.le_trans HK7.out.size (HF.out.2.2.2.2 ad.block ad.off ⟨rfl, Nat.le_refl _, by show ad.off < ad.off + c; have := HF.out.2.1; omega⟩)
/-- What Float.scan is to make of a text from the sign on: the digits' number N, what the exponent is. -/
def ScPostA (base b P M : Nat) (n : Bool) (N : Nat) (E : Int) (r : Nat) (l : List Nat) (bb : Nat) (w : World) (e : Ending) (w' : World) : Prop :=
  e = .returned (.tuple #[.pointer (some ⟨b, 0, none⟩), .int .i64 bb, .nilIface]) ∧ (∃ ac N' k xb xo m xc, (-2 < ac ∧ ac < 2) ∧ N = N' * 2 ^ k ∧ blen N' ≤ P ∧ FlA ac w' base b P M n N' (E + (k : Nat)) xb xo m xc) ∧ RdAt w' r l l.length ∧ Chg (fun x _ => x = r ∨ x = b) w w'
/-- What Parse is to make of a text. -/
def PaPostA (b P M : Nat) (n : Bool) (N : Nat) (E : Int) (bb : Nat) (w : World) (e : Ending) (w' : World) : Prop :=
  e = .returned (.tuple #[.pointer (some ⟨b, 0, none⟩), .int .i64 bb, .nilIface]) ∧ (∃ ac N' k xb xo m xc, (-2 < ac ∧ ac < 2) ∧ N = N' * 2 ^ k ∧ blen N' ≤ P ∧ FlA ac w' w.heap.size b P M n N' (E + (k : Nat)) xb xo m xc) ∧ Chg (Blk b) w w'
set_option maxRecDepth 1000000 in
set_option maxHeartbeats 8000000 in
theorem float_ParseA (bs b P M : Nat) (n : Bool) (N : Nat) (E : Int) (l : List Nat) (bb : Nat) (eo : Addr) (w : World) (hb : b < w.heap.size) (hl : ∀ x ∈ l, x < 256) (hlen : l.length ≤ 2000) (hI : NotInf l)
    (hE : w.cell? ⟨0, 0, none⟩ = some (.iface 245 (.pointer (some eo)))) (hb17 : 17 ≤ b)
    (hsc : ∀ W, Chg No w W → RdAt W w.heap.size l 0 → Calls Tryz.prog 132 #[.pointer (some ⟨b, 0, none⟩), .iface 133 (.pointer (some ⟨w.heap.size, 0, none⟩)), .int .i64 bs] W (ScPostA W.heap.size b P M n N E w.heap.size l bb W)) :
    Calls Tryz.prog 82 #[.pointer (some ⟨b, 0, none⟩), .string (txt l), .int .i64 bs] w (PaPostA b P M n N E bb w) := by
  have h17 : 17 ≤ w.heap.size := by omega
  have H0 := Lib.hid (rdr_new l w h17)
  have HSc := Lib.hid hsc
  have q2 := eof_neq eo
  have HE := Lib.hid hE
  have hsz : (txt l).size = l.length := txt_size l
  have HS : Hid (∀ S : ByteArray, S = txt l → ∀ i (h : i < S.size), (S[i]'h).toNat = l.getD i 0) := Lib.hid (by rintro S rfl i h; exact txt_get h hl)
  have HL := Lib.hid hl
  obtain ⟨S, hS⟩ : ∃ S, S = txt l := ⟨_, rfl⟩
  rw [← hS] at hsz H0 ⊢
  have HSS := Lib.hid hS
  obtain ⟨g, hg⟩ : ∃ g, g = l.getD 0 0 := ⟨_, rfl⟩
  have HI : Hid (∀ h : 0 < S.size, (S[0]'h).toNat = g) := Lib.hid (by intro h; rw [hg]; exact HS.out S HSS.out 0 h)
  obtain ⟨hn3, hn4⟩ := hI
  rw [← hg] at hn4
  obtain ⟨L, hL⟩ : ∃ L, L = l.length := ⟨_, rfl⟩
  rw [← hL] at hn3 hn4 hsz hlen
  have HLL := Lib.hid hL
  have t3 : ((L : Int) == 3) = false := by simp; omega
  clear hsc hE hl hS hg hL HS
  by_cases h4 : L = 4
  · obtain ⟨hn43, hn45⟩ := hn4 h4
    have t43 : ((g : Int) == 43) = false := by simp; omega
    have t45 : ((g : Int) == 45) = false := by simp; omega
    subst h4
    have hgi := HI.out (by omega)
    go_enter Tryz.func82, Tryz.ntmps82
    go_wp2_with fail
    refine H0.out.mono ?_
    rintro e w1 ⟨rfl, hr1, hk1⟩
    have HC := Lib.hid (HSc.out w1 hk1 hr1)
    have HK1 := Lib.hid hk1
    have HRL := Lib.hid hr1.2.1.lt
    clear hr1 hk1 HSc H0
    go_wp2_with fail
    refine HC.out.mono ?_
    rintro e w2 ⟨rfl, hfx, hr2, hk2⟩
    have HFX := Lib.hid hfx
    have HK2 := Lib.hid hk2
    have hrb : w.heap.size ≠ b := by omega
    have hE2 : w2.cell? ⟨0, 0, none⟩ = some (.iface 245 (.pointer (some eo))) := eof_chg (eof_chg HE.out HK1.out (fun f => f)) hk2 (fun f => by rcases f with f | f <;> omega)
    have H9 := Lib.hid (rdr_eof w.heap.size l _ w2 hr2 hE2 (by rw [← HLL.out]; omega))
    clear hfx hr2 hk2 HC
    go_wp2_with fail
    refine H9.out.mono ?_
    rintro e w3 ⟨rfl, hr3, hk3⟩
    have HK3 := Lib.hid hk3
    have hE3 : w3.cell? ⟨0, 0, none⟩ = some (.iface 245 (.pointer (some eo))) := eof_chg hE2 hk3 (fun f => by have h : (0 : Nat) = w.heap.size := f; omega)
    clear hr3 hk3 hE2
    go_wp2_with fail
    go_ret3
    obtain ⟨ac, N', k, xb, xo, m, xc, hac, hN, hBP, hx⟩ := HFX.out
    have hs1 := HK1.out.size
    have hrl := HRL.out
    refine ⟨rfl, ⟨ac, N', k, xb, xo, m, xc, hac, hN, hBP, (hx.lower hs1).chg HK3.out (fun o h => hrb h.symm) (fun i h => ?_)⟩, ?_⟩
    · have h1 : xb = w.heap.size := h
      have := hx.own
      omega
    · refine ((HK1.out.no (S := Blk b)).then HK2.out (fun x o hx f => ?_)).then HK3.out (fun x o hx f => ?_)
      · rcases f with f | f
        · omega
        · exact f
      · have h1 : x = w.heap.size := f
        omega
  · have t4 : ((L : Int) == 4) = false := by simp; omega
    go_enter Tryz.func82, Tryz.ntmps82
    go_wp2_with fail
    refine H0.out.mono ?_
    rintro e w1 ⟨rfl, hr1, hk1⟩
    have HC := Lib.hid (HSc.out w1 hk1 hr1)
    have HK1 := Lib.hid hk1
    have HRL := Lib.hid hr1.2.1.lt
    clear hr1 hk1 HSc H0
    go_wp2_with fail
    refine HC.out.mono ?_
    rintro e w2 ⟨rfl, hfx, hr2, hk2⟩
    have HFX := Lib.hid hfx
    have HK2 := Lib.hid hk2
    have hrb : w.heap.size ≠ b := by omega
    have hE2 : w2.cell? ⟨0, 0, none⟩ = some (.iface 245 (.pointer (some eo))) := eof_chg (eof_chg HE.out HK1.out (fun f => f)) hk2 (fun f => by rcases f with f | f <;> omega)
    have H9 := Lib.hid (rdr_eof w.heap.size l _ w2 hr2 hE2 (by rw [← HLL.out]; omega))
    clear hfx hr2 hk2 HC
    go_wp2_with fail
    refine H9.out.mono ?_
    rintro e w3 ⟨rfl, hr3, hk3⟩
    have HK3 := Lib.hid hk3
    have hE3 : w3.cell? ⟨0, 0, none⟩ = some (.iface 245 (.pointer (some eo))) := eof_chg hE2 hk3 (fun f => by have h : (0 : Nat) = w.heap.size := f; omega)
    clear hr3 hk3 hE2
    go_wp2_with fail
    go_ret3
    obtain ⟨ac, N', k, xb, xo, m, xc, hac, hN, hBP, hx⟩ := HFX.out
    have hs1 := HK1.out.size
    have hrl := HRL.out
    refine ⟨rfl, ⟨ac, N', k, xb, xo, m, xc, hac, hN, hBP, (hx.lower hs1).chg HK3.out (fun o h => hrb h.symm) (fun i h => ?_)⟩, ?_⟩
    · have h1 : xb = w.heap.size := h
      have := hx.own
      omega
    · refine ((HK1.out.no (S := Blk b)).then HK2.out (fun x o hx f => ?_)).then HK3.out (fun x o hx f => ?_)
      · rcases f with f | f
        · omega
        · exact f
      · have h1 : x = w.heap.size := f
        omega
/-- What impl.Parse says of a text that is a number N times 2 to E. -/
def IPostA (P M : Nat) (n : Bool) (N : Nat) (E : Int) (bb : Nat) (w : World) (e : Ending) (w' : World) : Prop :=
  ∃ A c l T O, ∃ ac : Int, e = .returned (.tuple #[.agg #[.int .u64 P, .int .i64 M, .int .i64 1, .bool n, .slice A (List.length l) c, .int .i64 (E + (T : Nat))], .int .i64 ac, .int .i64 bb, .bool true]) ∧ N = 2 ^ T * O ∧ O % 2 = 1 ∧ RdU w' A l ∧ List.length l ≤ c ∧ CanW l ∧ Vl l = O ∧ Chg No w w' ∧ (∀ ad, A = some ad → 0 < List.length l → w.heap.size ≤ ad.block)
set_option maxRecDepth 100000 in
set_option maxHeartbeats 4000000 in
theorem impl_ParseA (bs P M : Nat) (n : Bool) (N : Nat) (E : Int) (bb : Nat) (l : List Nat) (w : World) (hP0 : 0 < P) (hP2 : P < 2000) (hM : M < 6) (hN : N ≠ 0) (hE1 : -10000 ≤ E) (hE2 : E ≤ 10000) (hNb : blen N ≤ 3000) (hg : Glob w) (h17 : 17 ≤ w.heap.size)
    (hPa : ∀ W b, Chg No w W → w.heap.size ≤ b → b < W.heap.size → Fl W b P M 0 0 false (.slice none 0 0) 0 → Calls Tryz.prog 82 #[.pointer (some ⟨b, 0, none⟩), .string (txt l), .int .i64 bs] W (PaPostA b P M n N E bb W)) :
    Calls Tryz.prog 42 #[.string (txt l), .int .i64 bs, .int .u64 P, .int .i64 M] w (IPostA P M n N E bb w) := by
  obtain ⟨W1, hW1⟩ : ∃ W1, W1 = w.alloc (.cells #[.int .u64 0, .int .i64 0, .int .i64 0, .bool false, .slice none 0 0, .int .i64 0] 43) := ⟨_, rfl⟩
  have K1 : Chg No w W1 := by rw [hW1]; exact (Chg.refl No w).alloc _
  have BR : Bk W1 w.heap.size #[.int .u64 0, .int .i64 0, .int .i64 0, .bool false, .slice none 0 0, .int .i64 0] := by rw [hW1]; exact Bk.new w _ 43
  have hsz : W1.heap.size = w.heap.size + 1 := by rw [hW1]; simp
  have HF := Lib.hid (impl_fresh P M W1 hP0 (by omega) hM (by omega))
  have HW := Lib.hid hW1
  have HK1 := Lib.hid K1
  have HBR := Lib.hid BR
  have HPa := Lib.hid hPa
  have HSZ := Lib.hid hsz
  obtain ⟨tx, htx⟩ : ∃ tx, tx = txt l := ⟨_, rfl⟩
  rw [← htx] at HPa ⊢
  clear hW1 K1 BR hsz hPa htx
  go_enter Tryz.func42, Tryz.ntmps42
  go_wp2_with fail
  rw [← HW.out]
  refine HF.out.mono ?_
  rintro e w2 ⟨rfl, hf2, hk2⟩
  have K2 := HK1.out.then hk2 (fun _ _ _ f => f)
  have HP2 := Lib.hid (HPa.out w2 W1.heap.size K2 (by have := HSZ.out; omega) hf2.lt hf2)
  have HK2 := Lib.hid K2
  have HBR2 := Lib.hid (HBR.out.chg hk2 (fun _ f => f))
  clear hf2 hk2 K2 HBR HF HPa
  go_wp2_with fail
  refine HP2.out.mono ?_
  rintro e w3 ⟨rfl, ⟨ac, N', k, xb, xo, m, xc, hac, hN', hBP, hx⟩, hk3⟩
  obtain ⟨b, hb⟩ : ∃ b, b = W1.heap.size := ⟨_, rfl⟩
  rw [← hb] at hx hk3 ⊢
  have hbw : w.heap.size < b := by have := HSZ.out; omega
  have K3 := HK2.out.then hk3 (S := No) (fun x o hh h => by have h1 : x = b := h; omega)
  have hX0 := hx.X0
  obtain ⟨t, O, hX, hO⟩ := odd_part N' hX0
  have hkb : (k : Int) ≤ 3000 := by
    have h1 : blen N = k + blen N' := by rw [hN', Nat.mul_comm]; exact blen_pow hX0
    omega
  have hR := impl_realA ac _ b P M n N' (E + (k : Nat)) xb xo m xc t O w3 hx hX hO (by have := hx.lo; omega) hBP hP2 hM (by omega) (by omega) (hg.no K3) (Nat.le_trans h17 K3.size)
  have HR := Lib.hid hR
  have HX := Lib.hid hx
  have HK3 := Lib.hid K3
  have HBR3 := Lib.hid (HBR2.out.chg hk3 (fun o h => by have h1 : w.heap.size = b := h; omega))
  have HNT : Hid (N = 2 ^ (k + t) * O ∧ O % 2 = 1 ∧ E + (k : Nat) + (t : Int) = E + ((k + t : Nat) : Int)) := Lib.hid ⟨by rw [hN', hX, Nat.mul_comm, ← Nat.mul_assoc, ← Nat.pow_add], hO, by omega⟩
  have HB := Lib.hid (And.intro hb hbw)
  clear hN' hBP hx hk3 K3 hX0 hX hO hkb hR hb hbw HP2 HBR2
  go_wp2_with fail
  refine HR.out.mono ?_
  rintro e w4 ⟨A, c, lw, rfl, hrd, hlc, hcan, hvl, hk4, hnew⟩
  have K4 := HK3.out.then hk4 (fun _ _ _ f => f)
  have HAc := Lib.hid (float_Acc b P M ac 1 n _ _ w4 (HX.out.fl.chg hk4 (fun _ f => f)))
  have BR4 := HBR3.out.chg hk4 (fun _ f => f)
  have HF4 := Lib.hid (And.intro hrd (And.intro hlc (And.intro hcan (And.intro hvl hnew))))
  have HK4 := Lib.hid K4
  have HBR4 := Lib.hid BR4
  clear hrd hlc hcan hvl hk4 hnew K4 BR4 HBR3 HR
  go_wp2_with fail
  have eac : IntKind.i64.wrap ac = ac := IntWalk.i64_in _ (by omega)
  refine HAc.out.mono ?_
  rintro e w5 ⟨rfl, rfl⟩
  have r0 : w4.cell? ⟨w.heap.size, 0, none⟩ = some (.int .u64 0) := HBR4.out.cell 0
  have r1 : w4.cell? ⟨w.heap.size, 1, none⟩ = some (.int .i64 0) := HBR4.out.cell 1
  have r2 : w4.cell? ⟨w.heap.size, 2, none⟩ = some (.int .i64 0) := HBR4.out.cell 2
  have r3 : w4.cell? ⟨w.heap.size, 3, none⟩ = some (.bool false) := HBR4.out.cell 3
  have r4 : w4.cell? ⟨w.heap.size, 4, none⟩ = some (.slice none 0 0) := HBR4.out.cell 4
  have r5 : w4.cell? ⟨w.heap.size, 5, none⟩ = some (.int .i64 0) := HBR4.out.cell 5
  have fr := HBR4.out.plain.free
  have fr0 := fr 0
  have fr1 := fr 1
  have fr2 := fr 2
  have fr3 := fr 3
  have fr4 := fr 4
  have fr5 := fr 5
  clear fr
  go_wp2_with fail
  have B10 := HBR4.out.sr6 (.int .u64 (P : Nat)) (.int .i64 (M : Nat)) (.int .i64 1) (.bool n) (.slice A lw.length c) (.int .i64 (E + (k : Nat) + (t : Nat)))
  have K10 := HBR4.out.sr6_chg (p := 0) (P := P) (by decide) (Nat.lt_trans hP2 (by decide)) ⟨by simp, by simp⟩ ⟨by simp, by simp⟩ ⟨by simp, by simp⟩ ⟨by simp, by simp⟩ ⟨by simp, by simp⟩ (.int .i64 (M : Nat)) (.int .i64 1) (.bool n) (.slice A lw.length c) (.int .i64 (E + (k : Nat) + (t : Nat)))
  obtain ⟨h1, h2, h3⟩ := HNT.out
  refine bodyPost_ret (v := .tuple #[.agg #[.int .u64 (P : Nat), .int .i64 (M : Nat), .int .i64 1, .bool n, .slice A lw.length c, .int .i64 (E + (k : Nat) + (t : Nat))], .int .i64 ac, .int .i64 bb, .bool true]) ?_ rfl ⟨A, c, lw, k + t, O, ac, by rw [← h3], h1, h2, ?_, HF4.out.2.1, HF4.out.2.2.1, HF4.out.2.2.2.1, ?_, fun ad e0 h0 => by have h4 := HF4.out.2.2.2.2 ad e0 h0; have h5 := HK3.out.size; omega⟩
  · have hres : Tryz.f42.results = #[.cell 8 43, .tmp 9, .tmp 10, .tmp 11] := rfl
    have hld := load43 _ _ _ _ _ _ _ _ (B10.cell 0) (B10.cell 1) (B10.cell 2) (B10.cell 3) (B10.cell 4) (B10.cell 5)
    unfold sr6 at hld
    simp [results, hres, asAddr]
    rw [hld]
    rfl
  · exact HF4.out.1.chgB K10 (fun ad e h0 o h => by
      have h4 := HF4.out.2.2.2.2 ad e h0
      have h5 := HK3.out.size
      have h6 : ad.block = w.heap.size := h
      have h7 := HB.out.2
      have h8 := HX.out.fl.lt
      omega)
  · exact HK4.out.then K10 (fun x o hx h => by have h1 : x = w.heap.size := h; omega)
/-- The powers of 5 that are listed. -/
def P5 (w : World) : Prop := ∀ k, k ≤ 27 → w.cell? ⟨7, k, none⟩ = some (.int .u64 (5 ^ k : Nat))
theorem P5.chg {S : Nat → Nat → Prop} {w w' : World} (h : P5 w) (hc : Chg S w w') (hs : ∀ o, ¬ S 7 o) : P5 w' := fun k hk => (hc.cell 7 k (World.block_lt_of_cell? _ _ (h k hk)) (hs k)).trans (h k hk)
theorem shl64 {x s : Nat} (h : x * 2 ^ s < WB) : IntKind.u64.wrap ((x : Int) * 2 ^ s) = ((x * 2 ^ s : Nat) : Int) := by
  rw [cast_mul_pow, wrap_cast, Nat.mod_eq_of_lt h]
set_option maxRecDepth 100000 in
set_option maxHeartbeats 2000000 in
theorem float_setBits64 (b P M : Nat) (a0 : Int) (f0 : Nat) (n0 : Bool) (e0 : Int) (x : Nat) (w : World) (hf : Fl w b P M a0 f0 n0 (.slice none 0 0) e0) (hP : 64 ≤ P) (hP2 : P < 60000) (hx0 : x ≠ 0) (hxW : x < WB) (h17 : 17 ≤ w.heap.size) :
    Calls Tryz.prog 293 #[.pointer (some ⟨b, 0, none⟩), .bool false, .int .u64 x] w fun r w' => r = .returned (.pointer (some ⟨b, 0, none⟩)) ∧ ∃ yb yo yc, FlX w' w.heap.size b P M false x 0 yb yo 1 yc ∧ Chg (Blk b) w w' := by
  obtain ⟨B, hB⟩ : ∃ B, B = blen x := ⟨_, rfl⟩
  have hbl := blen_spec hx0
  have hB64 : B ≤ 64 := by rw [hB]; exact blen_le hx0 (by rw [← WB_eq]; exact hxW)
  have hBL : Lib.bitLen x = B := by rw [hB]; obtain ⟨d1, d2, d3, d4⟩ := bitLen_spec hx0 hxW; have k1 := blen_of d3 (by rw [show Lib.bitLen x - 1 + 1 = Lib.bitLen x by omega]; exact d4); omega
  have hup : upTo x 1 < WB := by have := upTo_lt (m := 1) hx0 (by omega); simpa using this
  have hux : upTo x 1 = x * 2 ^ (64 - B) := by unfold upTo; rw [← hB]
  rw [hux] at hup
  have s1 := hf.set2 0
  have t1 := hf.put2 (Chg.refl (Blk b) w) 0 (fun _ => rfl)
  have s2 := s1.set4 false
  have t2 := s1.put4 t1 false (fun _ => rfl)
  have s3 := s2.set3 1 (by omega)
  have t3 := s2.put3 t2 1 (by omega) (fun _ => rfl)
  have S3 := Lib.hid s3
  have T3 := Lib.hid t3
  have hplF := hf.plain
  obtain ⟨c0, c1, c2, c3, c4, c5, c6, -, hpl, -, -, -⟩ := hf
  have g2 := hpl.free 2
  have g3 := hpl.free 3
  have g4 := hpl.free 4
  have t0 : ((P : Int) == 0) = false := by simp; omega
  have tx : ((x : Int) == 0) = false := by simp; omega
  have hPl := Lib.hid hpl
  clear s1 s2 s3 t1 t2 t3 hpl hplF
  go_enter Tryz.func293, Tryz.ntmps293
  go_upto_region 9 with fail
  generalize ((w.setCell ⟨b, 2, none⟩ (.int .i8 0)).setCell ⟨b, 4, none⟩ (.bool false)).setCell ⟨b, 3, none⟩ (.int .u8 1) = w1 at *
  have HLZ := Lib.hid (Tryz.bits_LeadingZeros64 (x : Int) w1 (by omega) (by unfold WB at hxW; omega))
  rw [Int.toNat_natCast, hBL] at HLZ
  obtain ⟨sN, hsN⟩ : ∃ sN, sN = 64 - B := ⟨_, rfl⟩
  have es : (64 : Int) - (B : Int) = (sN : Int) := by omega
  have es2 : IntKind.u64.wrap (sN : Int) = (sN : Int) := by rw [IntKind.wrap_u64]; omega
  rw [← hsN] at hup hux
  obtain ⟨xs, hxs⟩ : ∃ xs, xs = x * 2 ^ sN := ⟨_, rfl⟩
  have eX : IntKind.u64.wrap ((x : Int) * 2 ^ sN) = (xs : Int) := by rw [hxs]; exact shl64 hup
  rw [← hxs] at hup hux
  have HU := Lib.hid (nat_setUint64 (.slice none 0 0) xs w1 (.inl rfl) hup (Nat.le_trans h17 T3.out.size))
  clear c0 c1 c2 c3 c4 c5 c6 g2 g3 g4 hPl
  obtain ⟨c0, c1, c2, c3, c4, c5, c6, -, hpl, -, -, -⟩ := S3.out
  have g5 := hpl.free 5
  have HS := Lib.hid (And.intro hsN (And.intro hB (And.intro hbl hux)))
  have HX := Lib.hid (And.intro hx0 hxs)
  clear hpl hsN hB hbl hux hx0 hxs hup
  rw [es] at HLZ
  go_wp2_with fail
  refine HLZ.out.mono ?_
  rintro e w2 ⟨rfl, rfl⟩
  go_wp2_with fail
  refine HU.out.mono ?_
  rintro e w3 ⟨r, rfl, hr⟩
  obtain ⟨ra, rn, rc, rfl⟩ := hr.nt.sl
  obtain ⟨yb, yo, rfl, hN, hm0⟩ : ∃ yb yo, ra = some ⟨yb, yo, none⟩ ∧ NtAt w3 yb yo rn rc xs ∧ 0 < rn := by
    have hu0 : xs ≠ 0 := by rw [HX.out.2]; exact Nat.mul_ne_zero HX.out.1 (Nat.ne_of_gt (Nat.two_pow_pos _))
    rcases hr.nt with ⟨_, h⟩ | ⟨xb, xo, m, xc, h, hn, h2, h3⟩
    · exact absurd h hu0
    · cases h
      refine ⟨xb, xo, rfl, ⟨hn, h2, h3⟩, ?_⟩
      rcases Nat.eq_zero_or_pos rn with e | e
      · subst e; exact absurd h2.symm hu0
      · exact e
  obtain ⟨hsN, hB, hbl, hux⟩ := HS.out
  obtain rfl : rn = 1 := by
    have l := blen_words hN hm0
    rw [← hux, blen_upTo HX.out.1 (by decide) (by omega)] at l
    omega
  have hyb : w.heap.size ≤ yb := by
    rcases hr.fp yb yo ⟨rfl, Nat.le_refl _, by have := hN.1.le; simp; omega⟩ with f | f
    · exact f.elim
    · have := T3.out.size; omega
  have hF5 := S3.out.chg hr.chg (fun _ f => f)
  have hneb : yb ≠ b := by
    rcases hr.fp yb yo ⟨rfl, Nat.le_refl _, by have := hN.1.le; simp; omega⟩ with f | f
    · exact f.elim
    · have := S3.out.lt; omega
  have K6 := Lib.hid (hF5.put5 (T3.out.then hr.chg (fun _ _ _ f => f.elim)) (.slice (some ⟨yb, yo, none⟩) 1 rc) (fun _ => rfl))
  have F6 := Lib.hid (hF5.set5 (.slice (some ⟨yb, yo, none⟩) 1 rc) ⟨_, _, _, rfl⟩)
  have N6 := hN.chg (hF5.put5 (Chg.refl (Blk b) w3) (.slice (some ⟨yb, yo, none⟩) 1 rc) (fun _ => rfl)) (fun i hi => hneb)
  have N7 := Lib.hid (N6.chg (F6.out.put6 (Chg.refl (Blk b) _) (B : Int) (fun _ => rfl)) (fun i hi => hneb))
  have K7 := Lib.hid (F6.out.put6 K6.out (B : Int) (fun _ => rfl))
  have F7 := Lib.hid (F6.out.set6 (B : Int))
  have eb1 : (64 : Int) - (sN : Int) = (B : Int) := by omega
  have eb2 : IntKind.i32.wrap (B : Int) = (B : Int) := by rw [IntKind.wrap_i32]; omega
  have tP : decide ((P : Int) < 64) = false := decide_eq_false (by omega)
  have g5' := hF5.plain.free 5
  have d5 := hF5.c5
  have b6 := F6.out.c6
  have b0 := F7.out.c0
  have g6 := F6.out.plain.free 6
  clear hN N6 hF5 hr c0 c1 c2 c3 c4 c5 c6 g5 hsN hB hbl
  go_wp2_with fail
  go_ret
  refine ⟨rfl, yb, yo, rc, ⟨?_, ?_, by decide, ?_, ?_, hneb, hyb⟩, K7.out⟩
  · rw [show (blen x : Int) + 0 = (B : Int) by have := HS.out.2.1; omega]
    exact F7.out
  · have := N7.out; rw [hux]; exact this
  · have := HS.out.2.2.1.1; omega
  · have := HS.out.2.1; omega
set_option maxHeartbeats 1000000 in
theorem float_SetUint64 (b P M : Nat) (a0 : Int) (f0 : Nat) (n0 : Bool) (e0 : Int) (x : Nat) (w : World) (hf : Fl w b P M a0 f0 n0 (.slice none 0 0) e0) (hP : 64 ≤ P) (hP2 : P < 60000) (hx0 : x ≠ 0) (hxW : x < WB) (h17 : 17 ≤ w.heap.size) :
    Calls Tryz.prog 257 #[.pointer (some ⟨b, 0, none⟩), .int .u64 x] w fun r w' => r = .returned (.pointer (some ⟨b, 0, none⟩)) ∧ ∃ yb yo yc, FlX w' w.heap.size b P M false x 0 yb yo 1 yc ∧ Chg (Blk b) w w' := by
  have H := Lib.hid (float_setBits64 b P M a0 f0 n0 e0 x w hf hP hP2 hx0 hxW h17)
  clear hf
  go_enter Tryz.func257, Tryz.ntmps257
  go_wp2_with fail
  refine H.out.mono ?_
  rintro r w1 ⟨rfl, yb, yo, yc, h1, h2⟩
  go_wp2_with fail
  go_ret
  exact ⟨rfl, yb, yo, yc, h1, h2⟩
set_option maxHeartbeats 1000000 in
/-- A power of 5 out of the table. -/
theorem float_pow5 (b P M : Nat) (a0 : Int) (f0 : Nat) (n0 : Bool) (e0 : Int) (k : Nat) (w : World) (hf : Fl w b P M a0 f0 n0 (.slice none 0 0) e0) (hP : 64 ≤ P) (hP2 : P < 60000) (hk : k ≤ 27) (h5 : P5 w) (h17 : 17 ≤ w.heap.size) :
    Calls Tryz.prog 202 #[.pointer (some ⟨b, 0, none⟩), .int .u64 k] w fun r w' => r = .returned (.pointer (some ⟨b, 0, none⟩)) ∧ ∃ yb yo yc, FlX w' w.heap.size b P M false (5 ^ k) 0 yb yo 1 yc ∧ Chg (Blk b) w w' := by
  have h1 : 5 ^ k < WB := Nat.lt_of_le_of_lt (Nat.pow_le_pow_right (by decide) hk) (by decide)
  have H := Lib.hid (float_SetUint64 b P M a0 f0 n0 e0 (5 ^ k) w hf hP hP2 (Nat.ne_of_gt (Nat.pow_pos (by decide))) h1 h17)
  have hc := h5 k hk
  obtain ⟨v, hv⟩ : ∃ v, v = 5 ^ k := ⟨_, rfl⟩
  rw [← hv] at H hc ⊢
  have t1 : (k : Int) ≤ 27 := by omega
  have t2 : (k : Int) < 28 := by omega
  clear hf h5 h1 hv
  go_enter Tryz.func202, Tryz.ntmps202
  go_wp2_with fail
  refine H.out.mono ?_
  rintro r w1 ⟨rfl, yb, yo, yc, h1, h2⟩
  go_wp2_with fail
  go_ret
  exact ⟨rfl, yb, yo, yc, h1, h2⟩
/-- A quotient A by B lies within half a unit of m by 2 to (c + 1). -/
def Bnd (m A c B : Nat) : Prop := (2 * m - 1) * 2 ^ c * B ≤ A ∧ A ≤ (2 * m + 1) * 2 ^ c * B ∧ (m % 2 = 1 → (2 * m - 1) * 2 ^ c * B < A ∧ A < (2 * m + 1) * 2 ^ c * B)
/-- How long the quotient is. -/
theorem Bnd.len {m A c B P : Nat} (h : Bnd m A c B) (hB : 0 < B) (hP : 0 < P) (h1 : 2 ^ (P - 1) < m) (h2 : m < 2 ^ P) : blen (A / B) = P + 1 + c := by
  have hP2 : 2 ^ P = 2 * 2 ^ (P - 1) := by rw [Nat.mul_comm, ← Nat.pow_succ]; congr 1; omega
  have a1 : 2 ^ P * 2 ^ c ≤ A / B := (Nat.le_div_iff_mul_le hB).2 (Nat.le_trans (Nat.mul_le_mul_right _ (Nat.mul_le_mul_right _ (by omega))) h.1)
  have a2 : A / B < 2 ^ (P + 1) * 2 ^ c := by
    refine (Nat.div_lt_iff_lt_mul hB).2 (Nat.lt_of_le_of_lt h.2.1 ?_)
    refine Nat.mul_lt_mul_of_pos_right (Nat.mul_lt_mul_of_pos_right ?_ (Nat.two_pow_pos _)) hB
    rw [Nat.pow_succ]; omega
  rw [← Nat.pow_add] at a1 a2
  have := blen_of (x := A / B) (k := P + c) a1 (by rw [show P + c + 1 = P + 1 + c by omega]; exact a2)
  omega
/-- What rounding makes of the quotient, its words filled up. -/
theorem Bnd.round {m A c B P mw : Nat} (h : Bnd m A c B) (hB : 0 < B) (hP : 0 < P) (h1 : 2 ^ (P - 1) < m) (h2 : m < 2 ^ P) (hmw : blen (A / B) ≤ 64 * mw) : rhe (2 * upTo (A / B) mw + (if A % B = 0 then 0 else 1)) (64 * mw - P + 1) = m := by
  have hl := h.len hB hP h1 h2
  have hm0 : 0 < m := Nat.lt_of_le_of_lt (Nat.zero_le _) h1
  have hr := rhe_quo hB hm0 h.1 h.2.1 h.2.2
  unfold stq at hr
  have hs : (if A % B = 0 then 0 else 1 : Nat) ≤ 1 := by split <;> omega
  have := rhe_shift (A / B) (if A % B = 0 then 0 else 1) (c + 2) (64 * mw - blen (A / B)) hs (by omega)
  rw [hr] at this
  unfold upTo
  rw [show 64 * mw - P + 1 = c + 2 + (64 * mw - blen (A / B)) by omega]
  exact this
theorem eql_fother {a b : Addr} {w : World} (hne : a ≠ b) (ha : Plain w a.block) (hb : Plain w b.block) : (binOp .eql 104 (.pointer (some a)) (.pointer (some b))).run Tryz.prog w = .ok (.bool false) w := by
  have h := equalIn_fptr 9999 w a b false (sameAddr_other hne ha hb)
  simp only [binOp]
  simp [Op.equal, Op.maxDepth, h]
/-- What an operation leaves in its receiver: the value m0 by 2 to E, in one word. -/
def OpOut (b P : Nat) (n : Bool) (m0 : Nat) (E : Int) (xb base : Nat) (w : World) (r : Ending) (w' : World) : Prop :=
  r = .returned (.tuple #[]) ∧ ∃ a' yb yo yc, (-2 < a' ∧ a' < 2) ∧ FlA a' w' base b P 0 n m0 E yb yo 1 yc ∧ (yb = xb ∨ w.heap.size ≤ yb) ∧ Chg (fun x _ => x = b ∨ x = xb) w w'
theorem FlA.of_even {w' : World} {base b P : Nat} {a' : Int} {n : Bool} {m0 : Nat} {E : Int} {yb yo yc : Nat} (h1 : 2 ^ (P - 1) < m0) (h2 : m0 < 2 ^ P) (hP0 : 0 < P) (hP : P ≤ 62) (hf : Fl w' b P 0 a' 1 n (.slice (some ⟨yb, yo, none⟩) 1 yc) E) (hn : NtAt w' yb yo 1 yc (m0 * 2 ^ (64 - P))) (hne : yb ≠ b) (hb : base ≤ yb) : FlA a' w' base b P 0 n m0 (E - P) yb yo 1 yc := by
  have hl : blen m0 = P := by
    have := blen_of (x := m0) (k := P - 1) (by omega) (by rw [show P - 1 + 1 = P by omega]; exact h2)
    omega
  refine ⟨?_, ?_, by decide, by omega, by omega, hne, hb⟩
  · rw [hl, show (P : Int) + (E - (P : Int)) = E by omega]; exact hf
  · unfold upTo; rw [hl]; exact hn
/-- The number in a slice that is not 0. -/
theorem Nt.at0 {w : World} {a : Option Addr} {n c X : Nat} (h : Nt w (.slice a n c) X) (h0 : X ≠ 0) : ∃ yb yo, a = some ⟨yb, yo, none⟩ ∧ NtAt w yb yo n c X ∧ 0 < n := by
  rcases h with ⟨_, h⟩ | ⟨xb, xo, m, xc, h, hn, h2, h3⟩
  · exact absurd h h0
  · cases h
    refine ⟨xb, xo, rfl, ⟨hn, h2, h3⟩, ?_⟩
    rcases Nat.eq_zero_or_pos n with e | e
    · subst e; exact absurd h2.symm h0
    · exact e
set_option maxRecDepth 100000 in
set_option maxHeartbeats 4000000 in
theorem float_umul (b c base base2 P P2 M2 : Nat) (ac : Int) (n : Bool) (N Y : Nat) (F G : Int) (xb xo xc yb yo yc m0 k : Nat) (w : World) (hz : FlA ac w base b P 0 n N F xb xo 1 xc) (hy : FlX w base2 c P2 M2 false Y G yb yo 1 yc)
    (hbc : b ≠ c) (hxy : xb ≠ yb) (hxc : xb ≠ c) (hyb : yb ≠ b) (hP0 : 0 < P) (hP : P ≤ 62) (h1 : 2 ^ (P - 1) < m0) (h2 : m0 < 2 ^ P) (hb : Bnd m0 (upTo N 1 * upTo Y 1) k 1) (hF1 : -5000 ≤ F) (hF2 : F ≤ 5000) (hG1 : -5000 ≤ G) (hG2 : G ≤ 5000) (hg : Glob w) (hbs : base ≤ w.heap.size) (h17 : 17 ≤ xb) (h17b : 17 ≤ b) :
    Calls Tryz.prog 258 #[.pointer (some ⟨b, 0, none⟩), .pointer (some ⟨b, 0, none⟩), .pointer (some ⟨c, 0, none⟩)] w (OpOut b P n m0 (F + G + blen N + blen Y - 127 + k) xb base w) := by
  have hN0 := hz.X0
  have hY0 := hy.X0
  have hNl := hz.hi
  have hYl := hy.hi
  obtain ⟨A, hA⟩ : ∃ A, A = upTo N 1 * upTo Y 1 := ⟨_, rfl⟩
  have hA0 : A ≠ 0 := by rw [hA]; exact Nat.mul_ne_zero (upTo_ne hN0) (upTo_ne hY0)
  have hAl : blen A = P + 1 + k := by have := hb.len (by decide) hP0 h1 h2; rw [Nat.div_one] at this; rw [hA]; exact this
  have hA2 : 64 < blen A ∧ blen A ≤ 128 := by
    have g1 := upTo_ge (m := 1) hN0 hNl
    have g2 := upTo_ge (m := 1) hY0 hYl
    have g3 := upTo_lt (m := 1) hN0 hNl
    have g4 := upTo_lt (m := 1) hY0 hYl
    rw [Nat.pow_one, WB_eq] at g3 g4
    have l1 : 2 ^ 63 * 2 ^ 63 ≤ A := by rw [hA]; exact Nat.mul_le_mul g1 g2
    have l2 : A < 2 ^ 64 * 2 ^ 64 := by rw [hA]; exact Nat.mul_lt_mul'' g3 g4
    obtain ⟨_, q2, q3⟩ := blen_spec hA0
    rw [← Nat.pow_add] at l1 l2
    have a1 := (Nat.pow_lt_pow_iff_right (by decide : 1 < 2)).1 (Nat.lt_of_le_of_lt l1 q3)
    have a2 := (Nat.pow_lt_pow_iff_right (by decide : 1 < 2)).1 (Nat.lt_of_le_of_lt q2 l2)
    omega
  have hRd := hb.round (mw := 2) (by decide) hP0 h1 h2 (by rw [Nat.div_one, ← hA]; omega)
  rw [Nat.div_one, ← hA, Nat.mod_one, if_pos rfl] at hRd
  have HM : Hid (∀ W, Chg No w W → Calls Tryz.prog 99 #[.slice (some ⟨xb, xo, none⟩) 1 xc, .pointer none, .slice (some ⟨xb, xo, none⟩) 1 xc, .slice (some ⟨yb, yo, none⟩) 1 yc] W fun e w' => ∃ r, e = .returned r ∧ Res W w' (.slice (some ⟨xb, xo, none⟩) 1 xc) r A) := Lib.hid (fun W hW => by
    rw [hA]
    have e1 := (hz.nt.chg hW (fun _ _ f => f)).nt
    have e2 := (hy.nt.chg hW (fun _ _ f => f)).nt
    have hs1 : upTo N 1 < WB ^ 39 := pow_mono (by decide) (upTo_lt (m := 1) hN0 hNl)
    have hs2 : upTo Y 1 < WB ^ 39 := pow_mono (by decide) (upTo_lt (m := 1) hY0 hYl)
    exact nat_mul _ _ _ _ _ _ W e1.ow e1 e2 hs1 hs2 (.inl ⟨xb, xo, 1, 1, xc, rfl, rfl⟩) (.inr (fun x o x' o' f f' => by rw [f.1, f'.1]; exact hxy)) (hg.no hW))
  obtain ⟨E1, hE1⟩ : ∃ E1 : Int, E1 = blen N + F := ⟨_, rfl⟩
  obtain ⟨E2, hE2⟩ : ∃ E2 : Int, E2 = blen Y + G := ⟨_, rfl⟩
  obtain ⟨fz, hfz⟩ : ∃ fz : Nat, fz = 64 * 2 - blen A := ⟨_, rfl⟩
  have i1 : -6000 ≤ E1 ∧ E1 ≤ 6000 := by omega
  have i2 : -6000 ≤ E2 ∧ E2 ≤ 6000 := by omega
  have i3 : fz ≤ 64 := by omega
  have w1 : IntKind.i64.wrap E1 = E1 := IntWalk.i64_in _ (by omega)
  have w2 : IntKind.i64.wrap E2 = E2 := IntWalk.i64_in _ (by omega)
  have w3 : IntKind.i64.wrap (E1 + E2) = E1 + E2 := IntWalk.i64_in _ (by omega)
  have w4 : IntKind.i64.wrap (E1 + E2 - (fz : Int)) = E1 + E2 - (fz : Int) := IntWalk.i64_in _ (by omega)
  have HEE : Hid (E1 + E2 - (fz : Int) - (P : Int) = F + G + blen N + blen Y - 127 + k) := Lib.hid (by omega)
  have HFz := Lib.hid (And.intro hfz (And.intro hRd hA0))
  have HZ := Lib.hid hz
  have HP12 := Lib.hid (And.intro h1 h2)
  have hFl := hz.fl
  have hFy := hy.fl
  rw [← hE1] at hFl
  rw [← hE2] at hFy
  have HFl := Lib.hid hFl
  have hpb := hFl.plain
  have hpc := hFy.plain
  have hp0 := eql_fother (a := ⟨b, 0, none⟩) (b := ⟨c, 0, none⟩) (w := w.drew) (by intro e; cases e; exact hbc rfl) hpb hpc
  have hlt := hFl.lt
  obtain ⟨c0, c1, c2, c3, c4, c5, c6, -, -, -, -, -⟩ := hFl
  obtain ⟨d0, d1, d2, d3, d4, d5, d6, -, -, -, -, -⟩ := hFy
  have HAl := Lib.hid hA2
  clear hz hy hN0 hY0 hNl hYl hA hA0 hAl hA2 hRd hE1 hE2 hfz hpb hpc h1 h2 hb
  go_enter Tryz.func258, Tryz.ntmps258
  go_wp2_with fail
  go_region_held3 (fun W => W.cell? ⟨b, 6, none⟩ = some (.int .i32 E1) ∧ W.cell? ⟨c, 6, none⟩ = some (.int .i32 E2)) (first | assumption | exact ⟨c6, d6⟩) (fail)
  go_upto_if 20 with fail
  go_cut [] (fun (wx : World) => ∃ (zb zo rc : Nat), Hid (Fl wx b P 0 ac 1 n (.slice (some ⟨zb, zo, none⟩) 2 rc) E1) ∧ Hid (NtAt wx zb zo 2 rc A) ∧ Hid (Chg (fun x _ => x = b ∨ x = xb) w wx) ∧ Hid ((zb = xb ∨ w.heap.size ≤ zb) ∧ zb ≠ b))
  case first =>
    go_wp2_with fail
    have HD := Lib.hid (And.intro c5 d5)
    go_region_with (go_at_call 99; refine (HM.out w.drew.drew (Chg.refl No w).drew.drew).mono ?_; rintro e w3 ⟨r, rfl, hr⟩; obtain ⟨ra, rn, rc, rfl⟩ := hr.nt.sl; have F5 := HFl.out.chg ((Chg.refl (Fp (.slice (some ⟨xb, xo, none⟩) 1 xc)) w).drew.drew.then hr.chg (fun _ _ _ f => f)) (fun o f => HZ.out.ne f.1.symm); have c5' := F5.c5; have f5' := F5.plain.free 5; have HR := Lib.hid hr; have HF5 := Lib.hid F5; clear hr F5)
    all_goals
      obtain ⟨zb, zo, rfl, hN, hm0⟩ := HR.out.nt.at0 HFz.out.2.2
      obtain rfl : rn = 2 := by
        have l := blen_words hN hm0
        have := HAl.out
        omega
      have hzb : zb = xb ∨ w.heap.size ≤ zb := by
        rcases HR.out.fp zb zo ⟨rfl, Nat.le_refl _, by have := hN.1.le; simp; omega⟩ with f | f
        · exact .inl f.1
        · exact .inr f
      have hneb : zb ≠ b := by
        rcases hzb with h | h
        · rw [h]; exact HZ.out.ne
        · omega
      have K3 := Lib.hid ((Chg.refl (Fp (.slice (some ⟨xb, xo, none⟩) 1 xc)) w).drew.drew.then HR.out.chg (fun _ _ _ f => f))
      have K6 := HF5.out.put5 (K3.out.mono (T := fun x _ => x = b ∨ x = xb) (fun x o _ f => .inr f.1)) (.slice (some ⟨zb, zo, none⟩) 2 rc) (fun _ => .inl rfl)
      have F6 := HF5.out.set5 (.slice (some ⟨zb, zo, none⟩) 2 rc) ⟨_, _, _, rfl⟩
      have N6 := hN.chg (HF5.out.put5 (Chg.refl (Blk b) w3) (.slice (some ⟨zb, zo, none⟩) 2 rc) (fun _ => rfl)) (fun i hi => hneb)
      go_wp2_with fail
      go_meet
      exact ⟨zb, zo, rc, Lib.hid F6, Lib.hid N6, Lib.hid K6, Lib.hid ⟨hzb, hneb⟩⟩
  case rest =>
  obtain ⟨zb, zo, rc, HF6, HN6, HK6, HZB⟩ := hcut
  generalize wc = w6 at *
  clear c0 c1 c2 c3 c4 c5 c6 d0 d1 d2 d3 d4 d5 d6 hp0 HM
  have c5 := HF6.out.c5
  have HFN := Lib.hid (fnorm_val zb zo 2 rc A w6 HN6.out (by decide) (by decide))
  rw [← HFz.out.1] at HFN
  go_wp2_with fail
  refine HFN.out.mono ?_
  rintro e w7 ⟨rfl, hn7, hk7⟩
  have HS := float_setExp_even b P ac 1 n E1 zb zo 2 rc (upTo A 2) 0 m0 (E1 + E2 - (fz : Int)) w7 (HF6.out.chg hk7 (fun o f => HZB.out.2 f.1.symm)) hn7 (by decide) (by decide) hP0 hP (by decide) HZB.out.2 HFz.out.2.1 HP12.out.2 (Nat.lt_of_le_of_lt (Nat.zero_le _) HP12.out.1) (by omega) (by omega)
  have HS := Lib.hid HS
  have K7 := Lib.hid (HK6.out.then hk7 (fun x o hx f => by
    have h : x = zb := f.1
    rcases HZB.out.1 with g | g
    · exact .inr (by rw [h, g])
    · omega))
  clear hn7 hk7 c5
  go_wp2_with fail
  refine HS.out.mono ?_
  rintro r w8 ⟨rfl, a', hab, q1, q2, q3⟩
  have Q1 := Lib.hid q1
  have Q2 := Lib.hid q2
  have Q3 := Lib.hid (K7.out.then q3 (fun x o hx h => by
    rcases h with h | h
    · exact .inl h
    · have h' : x = zb := h.1
      rcases HZB.out.1 with g | g
      · exact .inr (by rw [h', g])
      · omega))
  clear q1 q2 q3
  go_wp2_with fail
  go_end0
  refine ⟨rfl, a', zb, zo, rc, hab, ?_, HZB.out.1, Q3.out⟩
  rw [← HEE.out]
  exact FlA.of_even HP12.out.1 HP12.out.2 hP0 hP Q1.out Q2.out HZB.out.2 (by rcases HZB.out.1 with g | g
                                                                             · rw [g]; exact HZ.out.own
                                                                             · omega)
end Go.Proofs.YtacfhndledcmgaaGreatDoor
