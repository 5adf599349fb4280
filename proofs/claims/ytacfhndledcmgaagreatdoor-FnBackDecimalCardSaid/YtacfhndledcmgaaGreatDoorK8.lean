/- Lemmas for the law FnBackDecimal: SetMantExp, impl.float, decimals in memory and their shift. Conditions: those in each theorem; none besides. -/
import Derived.Test.YtacfhndledcmgaaGreatDoorK7
import Derived.Deep.CutBlock
import Derived.Deep.DeepCutAuto
set_option linter.unusedVariables false
set_option linter.unusedSimpArgs false
namespace Go.Proofs.YtacfhndledcmgaaGreatDoor
open Go.RowKit
theorem blen_upTo {X m : Nat} (h0 : X ≠ 0) (hm : 0 < m) (h : blen X ≤ 64 * m) : blen (upTo X m) = 64 * m := by
  have h1 := upTo_ge h0 h
  have h2 := upTo_lt h0 h
  rw [WB_two] at h2
  have := blen_of h1 (by rw [show 64 * m - 1 + 1 = 64 * m by omega]; exact h2)
  omega
theorem small_words {X m : Nat} (h : X < WB ^ m) (hm : m ≤ 1000) : Small X := by
  unfold Small
  refine Nat.lt_of_lt_of_le h ?_
  obtain ⟨T, hT⟩ : ∃ T : Nat, T = 1000 := ⟨_, rfl⟩
  rw [← hT] at hm ⊢
  exact Nat.pow_le_pow_right WB_pos hm
theorem FlX.X0 {w : World} {base b P M : Nat} {n : Bool} {X : Nat} {E : Int} {xb xo m xc : Nat} (h : FlX w base b P M n X E xb xo m xc) : X ≠ 0 := by
  intro e; subst e
  have := h.lo
  simp [blen] at this
set_option maxRecDepth 100000 in
set_option maxHeartbeats 1500000 in
theorem float_Copy (b p0 m0 : Nat) (a0 : Int) (f0 : Nat) (n0 : Bool) (e0 : Int) (base x P M : Nat) (n : Bool) (X : Nat) (E : Int) (xb xo m xc : Nat) (w : World) (hz : Fl w b p0 m0 a0 f0 n0 (.slice none 0 0) e0) (hx : FlX w base x P M n X E xb xo m xc)
    (hm : m ≤ 1000) (hne : b ≠ x) (hb : xb ≠ b) (hs : 17 ≤ w.heap.size) :
    Calls Tryz.prog 189 #[.pointer (some ⟨b, 0, none⟩), .pointer (some ⟨x, 0, none⟩)] w fun r w' => r = .returned (.pointer (some ⟨b, 0, none⟩)) ∧ ∃ yb yo yc, FlX w' w.heap.size b P M n X E yb yo m yc ∧ Chg (Blk b) w w' := by
  have hX0 := hx.X0
  obtain ⟨hx1, hxn, hx2, hx3, hx4, hx5, hx6⟩ := hx
  have hp := fun (W : World) (h1 : Plain W b) (h2 : Plain W x) => neq_fother (a := ⟨b, 0, none⟩) (b := ⟨x, 0, none⟩) (w := W) (by intro e; cases e; exact hne rfl) h1 h2
  have hp0 := hp w hz.plain hx1.plain
  have s1 := hz.set0 P
  have t1 := hz.put0 (Chg.refl (Blk b) w) P (fun _ => rfl)
  have s2 := s1.set1 M hx1.m8
  have t2 := s1.put1 t1 M hx1.m8 (fun _ => rfl)
  have s3 := s2.set2 0
  have t3 := s2.put2 t2 0 (fun _ => rfl)
  have s4 := s3.set3 1 (by omega)
  have t4 := s3.put3 t3 1 (by omega) (fun _ => rfl)
  have s5 := s4.set4 n
  have t5 := s4.put4 t4 n (fun _ => rfl)
  have H2 := Lib.hid (nat_set_d (.slice none 0 0) (.slice (some ⟨xb, xo, none⟩) m xc) _ _ (.inl rfl) (hxn.chg t5 (fun i hi => hb)).nt (small_words (upTo_lt hX0 hx4) hm) (Nat.le_trans hs t5.size))
  have HZ := Lib.hid hz.lt
  have S5 := Lib.hid s5
  have T5 := Lib.hid t5
  obtain ⟨c0, c1, c2, c3, c4, c5, c6, -, hpl, -, -, -⟩ := hz
  have g0 := hpl.free 0
  have g1 := hpl.free 1
  have g2 := hpl.free 2
  have g3 := hpl.free 3
  have g4 := hpl.free 4
  obtain ⟨d0, d1, d2, d3, d4, d5, d6, -, -, -, -, -⟩ := hx1
  have hne2 : ¬ x = b := fun e => hne e.symm
  clear hp hpl s1 s2 s3 s4 s5 t1 t2 t3 t4 t5 hxn
  go_enter Tryz.func189, Tryz.ntmps189
  go_wp2_with fail
  have d6' := T5.out.cell x 6 (World.block_lt_of_cell? _ _ d6) hne2
  rw [d6] at d6'
  have D6 := Lib.hid d6'
  clear d6'
  go_region_with (go_at_call 156; refine (H2.out _).mono ?_; rintro e w3 ⟨r, rfl, hr⟩; obtain ⟨ra, rn, rc, rfl⟩ := hr.nt.sl; have F5 := S5.out.chg hr.chg (fun _ f => f); have c5' := F5.c5; have f5' := F5.plain.free 5; have HR := Lib.hid hr; have HF5 := Lib.hid F5; clear hr F5)
  all_goals
    obtain ⟨yb, yo, rfl, hN, hm0⟩ : ∃ yb yo, ra = some ⟨yb, yo, none⟩ ∧ NtAt w3 yb yo rn rc (upTo X m) ∧ 0 < rn := by
      have hu0 : upTo X m ≠ 0 := by have := upTo_ge hX0 hx4; have := Nat.two_pow_pos (64 * m - 1); omega
      rcases HR.out.nt with ⟨_, h⟩ | ⟨xb, xo, m, xc, h, hn, h2, h3⟩
      · exact absurd h hu0
      · cases h
        refine ⟨xb, xo, rfl, ⟨hn, h2, h3⟩, ?_⟩
        rcases Nat.eq_zero_or_pos rn with e | e
        · subst e; exact absurd h2.symm hu0
        · exact e
    obtain rfl : rn = m := by
      have l := blen_words hN hm0
      rw [blen_upTo hX0 hx2 hx4] at l
      omega
    have hyb : w.heap.size ≤ yb := by
      rcases HR.out.fp yb yo ⟨rfl, Nat.le_refl _, by have := hN.1.le; simp; omega⟩ with f | f
      · exact f.elim
      · have := T5.out.size; omega
    have hneb : yb ≠ b := by have := HZ.out; omega
    have K1 := Lib.hid (HF5.out.put5 (T5.out.then HR.out.chg (fun _ _ _ f => f.elim)) (.slice (some ⟨yb, yo, none⟩) rn rc) (fun _ => rfl))
    have F6 := Lib.hid (HF5.out.set5 (.slice (some ⟨yb, yo, none⟩) rn rc) ⟨_, _, _, rfl⟩)
    have N6 := hN.chg (HF5.out.put5 (Chg.refl (Blk b) w3) (.slice (some ⟨yb, yo, none⟩) rn rc) (fun _ => rfl)) (fun i hi => hneb)
    have N7 := Lib.hid (N6.chg (F6.out.put6 (Chg.refl (Blk b) _) (blen X + E) (fun _ => rfl)) (fun i hi => hneb))
    have K2 := Lib.hid (F6.out.put6 K1.out (blen X + E) (fun _ => rfl))
    have F7 := Lib.hid (F6.out.set6 (blen X + E))
    have b6 := F6.out.c6
    have g6 := F6.out.plain.free 6
    have d6' := K1.out.cell x 6 (World.block_lt_of_cell? _ _ d6) hne2
    rw [d6] at d6'
    clear hN N6 c5' f5' c0 c1 c2 c3 c4 c5 c6 g0 g1 g2 g3 g4 HF5 HR H2
    go_wp2_with fail
    go_ret
    exact ⟨rfl, yb, yo, rc, ⟨F7.out, N7.out, hx2, hx3, hx4, hneb, hyb⟩, K2.out⟩
theorem FlX.lower {w : World} {base base' b P M : Nat} {n : Bool} {X : Nat} {E : Int} {xb xo m xc : Nat} (h : FlX w base b P M n X E xb xo m xc) (hb : base' ≤ base) : FlX w base' b P M n X E xb xo m xc :=
  ⟨h.fl, h.nt, h.m0, h.lo, h.hi, h.ne, Nat.le_trans hb h.own⟩
set_option maxRecDepth 100000 in
set_option maxHeartbeats 1500000 in
theorem float_SetMantExp (b p0 m0 : Nat) (a0 : Int) (f0 : Nat) (n0 : Bool) (e0 : Int) (base x P M : Nat) (n : Bool) (X : Nat) (E E' : Int) (xb xo m xc : Nat) (w : World) (hz : Fl w b p0 m0 a0 f0 n0 (.slice none 0 0) e0) (hx : FlX w base x P M n X E xb xo m xc)
    (hm : m ≤ 1000) (hne : b ≠ x) (hb : xb ≠ b) (hP : blen X ≤ P) (hP2 : P < 60000) (hM : M < 6) (hE : -20000 ≤ E) (hE2 : E ≤ 20000) (hE3 : -20000 ≤ E') (hE4 : E' ≤ 20000) (hs : 17 ≤ w.heap.size) :
    Calls Tryz.prog 124 #[.pointer (some ⟨b, 0, none⟩), .pointer (some ⟨x, 0, none⟩), .int .i64 E'] w fun r w' => r = .returned (.pointer (some ⟨b, 0, none⟩)) ∧ ∃ yb yo yc, FlX w' w.heap.size b P M n X (E + E') yb yo m yc ∧ Chg (Blk b) w w' := by
  have H := Lib.hid (float_Copy b p0 m0 a0 f0 n0 e0 base x P M n X E xb xo m xc w hz hx hm hne hb hs)
  have HZ := Lib.hid hz.lt
  clear hz hx
  go_enter Tryz.func124, Tryz.ntmps124
  go_wp2_with fail
  refine H.out.mono ?_
  rintro r w1 ⟨rfl, yb, yo, yc, h1, h2⟩
  have HE := Lib.hid (float_setExp_exact b P M _ _ _ _ yb yo m yc _ (blen X + E + E') w1 h1.fl h1.nt h1.m0 hm (by have := h1.lo; omega) (by omega) (fun h => upTo_mod hP h1.hi h) h1.ne hM (by omega) (by omega))
  have H1 := Lib.hid h1
  have H2 := Lib.hid h2
  have i1 : 0 ≤ (blen X : Int) := by omega
  have i2 : (blen X : Int) ≤ 60000 := by omega
  obtain ⟨c0, c1, c2, c3, c4, c5, c6, -, hpl, -, -, -⟩ := h1.fl
  clear hpl h1 h2
  go_wp2_with fail
  refine HE.out.mono ?_
  rintro r w5 ⟨rfl, f5, n5, k5⟩
  have F8 := Lib.hid f5
  have N8 := Lib.hid n5
  have K8 := Lib.hid (H2.out.then k5 (fun x o hx f => by
      rcases f with f | f
      · exact f
      · have := f.1; have := H1.out.own; omega))
  clear f5 n5 k5
  go_wp2_with fail
  go_ret
  exact ⟨rfl, yb, yo, yc, ⟨by rw [← Int.add_assoc]; exact F8.out, N8.out, H1.out.m0, H1.out.lo, H1.out.hi, H1.out.ne, H1.out.own⟩, K8.out⟩
theorem FlX.chg {S : Nat → Nat → Prop} {w w' : World} {base b P M : Nat} {n : Bool} {X : Nat} {E : Int} {xb xo m xc : Nat} (h : FlX w base b P M n X E xb xo m xc) (hc : Chg S w w') (h1 : ∀ o, ¬ S b o) (h2 : ∀ i, ¬ S xb i) : FlX w' base b P M n X E xb xo m xc :=
  ⟨h.fl.chg hc h1, h.nt.chg hc (fun i _ => h2 _), h.m0, h.lo, h.hi, h.ne, h.own⟩
theorem hsz (w : World) (o : Obj) : (w.alloc o).heap.size = w.heap.size + 1 := by simp
theorem blen_le {X P : Nat} (hX0 : X ≠ 0) (hX : X < 2 ^ P) : blen X ≤ P := by
  obtain ⟨q1, q2, q3⟩ := blen_spec hX0
  rcases Nat.lt_or_ge P (blen X) with h | h
  · have := Nat.pow_le_pow_right (n := 2) (by decide) (show P ≤ blen X - 1 by omega); omega
  · exact h
set_option maxRecDepth 100000 in
set_option maxHeartbeats 1000000 in
theorem impl_float (P M : Nat) (n : Bool) (A : Option Addr) (c : Nat) (l : List Nat) (E : Int) (w : World) (hl : l.length ≤ 1000) (hm : ∀ x ∈ l, x < WB) (hr : RdU w A l) (hP0 : 0 < P) (hP : P < 60000) (hM : M < 6) (hX : Vl l < 2 ^ P) (hX0 : Vl l ≠ 0)
    (hE1 : -20000 ≤ E) (hE2 : E ≤ 20000) (hs : 17 ≤ w.heap.size) :
    Calls Tryz.prog 62 #[.agg #[.int .u64 P, .int .i64 M, .int .i64 1, .bool n, .slice A l.length c, .int .i64 E]] w fun r w' =>
      ∃ b xb xo m xc, r = .returned (.pointer (some ⟨b, 0, none⟩)) ∧ FlX w' w.heap.size b P M n (Vl l) E xb xo m xc ∧ w.heap.size ≤ b ∧ Chg No w w' := by
  have C0 := Lib.hid ((Chg.refl No w).alloc (.cells #[.int .u64 P, .int .i64 M, .int .i64 1, .bool n, .slice A l.length c, .int .i64 E] 43))
  have H1 := Lib.hid (impl_fresh P M (w.alloc (.cells #[.int .u64 P, .int .i64 M, .int .i64 1, .bool n, .slice A l.length c, .int .i64 E] 43)) hP0 (by omega) hM (by simp; omega))
  go_enter Tryz.func62, Tryz.ntmps62
  go_wp2_with fail
  refine H1.out.mono ?_
  rintro r w1 ⟨rfl, f1, k1⟩
  have K1 := Lib.hid (C0.out.then k1 (fun _ _ _ f => f))
  rw [hsz] at f1
  have hs1 : w.heap.size + 1 < w1.heap.size := f1.lt
  have bx : ∀ i, w1.cell? ⟨w.heap.size, i, none⟩ = (#[Value.int .u64 P, .int .i64 M, .int .i64 1, .bool n, .slice A l.length c, .int .i64 E])[i]? := fun i => by
    rw [k1.cell _ _ (by simp) (fun f => f), World.cell?_alloc_new]
  have b1 := bx 1
  have b2 := bx 2
  have b3 := bx 3
  have b4 := bx 4
  have b5 := bx 5
  have H2 := Lib.hid (impl_of A c l w1 hl hm (hr.chg K1.out) (by omega))
  have F1 := Lib.hid f1
  clear bx f1 k1 hm hr
  go_wp2_with fail
  refine H2.out.mono ?_
  rintro r w2 ⟨ib, v, rfl, i2, hi2, n2, fp2, k2⟩
  have K2 := Lib.hid (K1.out.then k2 (fun _ _ _ f => f))
  have K2' := Lib.hid k2
  have hs2 := k2.size
  have b3' := (k2.cell _ _ (by omega) (fun f => f)).trans b3
  have b5' := (k2.cell _ _ (by omega) (fun f => f)).trans b5
  have f2 := F1.out.chg k2 (fun _ f => f)
  have H3 := Lib.hid (float_SetInt _ P M _ _ _ _ ib v (Vl l) w2 f2 i2 n2 hX hX0 hP0 hP hM (fun x p f => by have := (fp2 x p f).1; simp; omega) (by simp; omega) (by omega))
  clear i2 n2 fp2 k2 f2 b1 b2 b3 b4 b5
  go_wp2_with fail
  refine H3.out.mono ?_
  rintro r w3 ⟨rfl, xb, xo, m, xc, x3, k3⟩
  have K3 := Lib.hid (K2.out.then k3 (fun x o hx f => by simp [Blk] at f; omega))
  have hs3 := k3.size
  have hXP := blen_le hX0 hX
  have b3 := (k3.cell w.heap.size 3 (by omega) (by unfold Blk; omega)).trans b3'
  have b5 := (k3.cell w.heap.size 5 (by omega) (by unfold Blk; omega)).trans b5'
  have hlt3 : w.heap.size < w3.heap.size := by omega
  clear b3' b5' k3
  cases n
  · have x4 := x3.chg ((Chg.refl No w3).alloc (.cells #[.int .u32 0, .int .u8 0, .int .i8 0, .int .u8 0, .bool false, .slice none 0 0, .int .i32 0] 176)) (fun _ f => f) (fun _ f => f)
    have z4 := Fl.new w3 (by omega)
    have H5 := Lib.hid (float_SetMantExp _ _ _ _ _ _ _ _ _ P M false (Vl l) 0 E xb xo m xc _ z4 x4 (by have := x3.lo; omega) (by have := x3.fl.lt; omega) (by have := x3.nt.1.lt; omega) hXP hP hM (by omega) (by omega) hE1 hE2 (by simp; omega))
    have K4 := Lib.hid (K3.out.alloc (.cells #[.int .u32 0, .int .u8 0, .int .i8 0, .int .u8 0, .bool false, .slice none 0 0, .int .i32 0] 176))
    clear x4 z4
    go_wp2_with fail
    refine H5.out.mono ?_
    rintro r w5 ⟨rfl, yb, yo, yc, x5, k5⟩
    have X5 := Lib.hid x5
    have K5 := Lib.hid (K4.out.then k5 (fun x o hx f => by simp [Blk] at f; omega))
    clear x5 k5
    go_wp2_with fail
    go_ret
    exact ⟨_, yb, yo, m, yc, rfl, by have := X5.out.lower (base' := w.heap.size) (by simp; omega); rwa [Int.zero_add] at this, by omega, K5.out⟩
  · have H4 := Lib.hid (float_Neg_self _ _ _ _ _ _ _ _ _ x3.fl)
    go_wp2_with fail
    refine H4.out.mono ?_
    rintro r w4 ⟨rfl, f4, k4⟩
    have hs4 := k4.size
    have x4 : FlX w4 w2.heap.size (w.heap.size + 1) P M true (Vl l) 0 xb xo m xc := ⟨f4, x3.nt.chg k4 (fun i _ => x3.ne), x3.m0, x3.lo, x3.hi, x3.ne, x3.own⟩
    have x4' := x4.chg ((Chg.refl No w4).alloc (.cells #[.int .u32 0, .int .u8 0, .int .i8 0, .int .u8 0, .bool false, .slice none 0 0, .int .i32 0] 176)) (fun _ f => f) (fun _ f => f)
    have z4 := Fl.new w4 (by omega)
    have H5 := Lib.hid (float_SetMantExp _ _ _ _ _ _ _ _ _ P M true (Vl l) 0 E xb xo m xc _ z4 x4' (by have := x3.lo; omega) (by have := x4.fl.lt; omega) (by have := x4.nt.1.lt; omega) hXP hP hM (by omega) (by omega) hE1 hE2 (by simp; omega))
    have K3' := K3.out.then k4 (fun x o hx f => by simp [Blk] at f; omega)
    have K4 := Lib.hid (K3'.alloc (.cells #[.int .u32 0, .int .u8 0, .int .i8 0, .int .u8 0, .bool false, .slice none 0 0, .int .i32 0] 176))
    have c5 := (k4.cell w.heap.size 5 (by omega) (by unfold Blk; omega)).trans b5
    have hlt4 : w.heap.size < w4.heap.size := by omega
    clear x4 x4' z4 K3' k4 f4 b5 b3 H4
    go_wp2_with fail
    refine H5.out.mono ?_
    rintro r w5 ⟨rfl, yb, yo, yc, x5, k5⟩
    have X5 := Lib.hid x5
    have K5 := Lib.hid (K4.out.then k5 (fun x o hx f => by simp [Blk] at f; omega))
    clear x5 k5
    go_wp2_with fail
    go_ret
    exact ⟨_, yb, yo, m, yc, rfl, by have := X5.out.lower (base' := w.heap.size) (by simp; omega); rwa [Int.zero_add] at this, by omega, K5.out⟩
theorem gd_lt {l : List Nat} {j : Nat} (h : j < l.length) : l.getD j 0 = l[j] := by simp [List.getD, h]
theorem gd_ge {l : List Nat} {j : Nat} (h : l.length ≤ j) : l.getD j 0 = 0 := by simp [List.getD, h]
/-- A decimal: its figures, as bytes of text, and its exponent. -/
structure DeX (w : World) (b mb mo mc : Nat) (ds : List Nat) (x : Int) : Prop where
  c0 : w.cell? ⟨b, 0, none⟩ = some (.slice (some ⟨mb, mo, none⟩) ds.length mc)
  c1 : w.cell? ⟨b, 1, none⟩ = some (.int .i64 x)
  plain : Plain w b
  own : 17 ≤ b
  nb : NK .u8 256 w mb mo ds.length mc
  dig : ∀ j, j < ds.length → wd w mb (mo + j) = 48 + ds.getD j 0
  d10 : ∀ d ∈ ds, d < 10
  ne : mb ≠ b
theorem DeX.chg {S : Nat → Nat → Prop} {w w' : World} {b mb mo mc : Nat} {ds : List Nat} {x : Int} (h : DeX w b mb mo mc ds x) (hc : Chg S w w') (h1 : ∀ o, ¬ S b o) (h2 : ∀ o, ¬ S mb o) : DeX w' b mb mo mc ds x :=
  ⟨(hc.cell _ _ h.plain.lt (h1 _)).trans h.c0, (hc.cell _ _ h.plain.lt (h1 _)).trans h.c1, hc.plain _ h.plain, h.own, h.nb.chg km8 hc, fun j hj => (wd_congr (hc.cell _ _ h.nb.lt (h2 _))).trans (h.dig j hj), h.d10, h.ne⟩
theorem DeX.cell {w : World} {b mb mo mc : Nat} {ds : List Nat} {x : Int} (h : DeX w b mb mo mc ds x) {j : Nat} (hj : j < ds.length) : w.cell? ⟨mb, mo + j, none⟩ = some (.int .u8 (48 + ds.getD j 0 : Nat)) := by
  rw [← h.dig j hj]; exact (h.nb.isI j (by have := h.nb.le; omega)).cell
theorem getD_lt {ds : List Nat} {j : Nat} (h : ∀ d ∈ ds, d < 10) : ds.getD j 0 < 10 := by
  by_cases hj : j < ds.length
  · rw [gd_lt hj]; exact h _ (List.getElem_mem hj)
  · rw [gd_ge (by omega)]; omega
/-- The mantissa cut to k figures, and an exponent. -/
theorem DeX.cut {w : World} {b mb mo mc : Nat} {ds : List Nat} {x : Int} (h : DeX w b mb mo mc ds x) (k : Nat) (hk : k ≤ ds.length) :
    DeX (w.setCell ⟨b, 0, none⟩ (.slice (some ⟨mb, mo, none⟩) k mc)) b mb mo mc (ds.take k) x ∧ Chg (Blk b) w (w.setCell ⟨b, 0, none⟩ (.slice (some ⟨mb, mo, none⟩) k mc)) := by
  have hlen : (ds.take k).length = k := by rw [List.length_take]; omega
  have hc := (Chg.refl (Blk b) w).setO (.slice (some ⟨mb, mo, none⟩) k mc) h.c0 (by simp) (by simp) (fun _ => rfl)
  refine ⟨⟨?_, (cell_setCell_ne _ _ _ _ _ _ (.inr (by omega))).trans h.c1, h.plain.setCell _ _, h.own, ?_, fun j hj => ?_, fun d hd => h.d10 d (List.mem_of_mem_take hd), h.ne⟩, hc⟩
  · rw [hlen]; exact World.cell?_setCell_same _ _ _ h.c0
  · rw [hlen]; exact (h.nb.chg km8 hc).len (by have := h.nb.le; omega)
  · rw [hlen] at hj
    rw [wd_setCell_ne (.inl h.ne), h.dig j (by omega)]
    congr 1
    rw [gd_lt (by omega), gd_lt (by omega), List.getElem_take]
theorem DeX.setExp {w : World} {b mb mo mc : Nat} {ds : List Nat} {x : Int} (h : DeX w b mb mo mc ds x) (y : Int) :
    DeX (w.setCell ⟨b, 1, none⟩ (.int .i64 y)) b mb mo mc ds y ∧ Chg (Blk b) w (w.setCell ⟨b, 1, none⟩ (.int .i64 y)) := by
  have hc := (Chg.refl (Blk b) w).setO (.int .i64 y) h.c1 (by simp) (by simp) (fun _ => rfl)
  exact ⟨⟨(cell_setCell_ne _ _ _ _ _ _ (.inr (by omega))).trans h.c0, World.cell?_setCell_same _ _ _ h.c1, h.plain.setCell _ _, h.own, h.nb.chg km8 hc, fun j hj => (wd_setCell_ne (.inl h.ne)).trans (h.dig j hj), h.d10, h.ne⟩, hc⟩
/-- k is the length of a list of figures without the zeros at its end. -/
def TrimAt (ds : List Nat) (k : Nat) : Prop := k ≤ ds.length ∧ (∀ j, k ≤ j → ds.getD j 0 = 0) ∧ (k = 0 ∨ ds.getD (k - 1) 0 ≠ 0)
set_option maxRecDepth 100000 in
set_option maxHeartbeats 1000000 in
theorem dec_trim (b mb mo mc : Nat) (ds : List Nat) (x : Int) (w : World) (h : DeX w b mb mo mc ds x) (hl : ds.length < 1048576) :
    Calls Tryz.prog 290 #[.pointer (some ⟨b, 0, none⟩)] w fun e w' => e = .returned (.tuple #[]) ∧ ∃ k, TrimAt ds k ∧ DeX w' b mb mo mc (ds.take k) (if k = 0 then 0 else x) ∧ Chg (Blk b) w w' := by
  have c0 := h.c0
  have c1 := h.c1
  have f0 := h.plain.free 0
  have f1 := h.plain.free 1
  have hle := h.nb.le
  obtain ⟨n, hn⟩ : ∃ n, n = ds.length := ⟨_, rfl⟩
  rw [← hn] at c0 hl hle
  have HN := Lib.hid hn
  clear hn
  go_enter Tryz.func290, Tryz.ntmps290
  go_upto_block 0 with fail
  go_cut [2] (fun v wx => ∃ k : Nat, v = .int .i64 k ∧ wx = w ∧ Hid (TrimAt ds k) ∧ k ≤ n)
  case first =>
    go_wp2_with fail
    go_loop [2] (fun v => ∃ k : Nat, k ≤ n ∧ v = .int .i64 k ∧ Hid (∀ j, k ≤ j → ds.getD j 0 = 0)) (fun v => (intOf v).toNat)
    case atStart => exact ⟨n, by omega, rfl, Lib.hid (fun j hj => gd_ge (by rw [← HN.out]; exact hj))⟩
    case round =>
      obtain ⟨k, hk, rfl, hZ⟩ := hrel
      by_cases hk0 : k = 0
      · subst hk0
        go_wp2_with fail
        go_meet
        exact ⟨0, rfl, rfl, Lib.hid ⟨by omega, hZ.out, .inl rfl⟩, by omega⟩
      · have i1 : 0 < (k : Int) := by omega
        have i2 : (k : Int) - 1 < n := by omega
        have i3 : 0 ≤ (k : Int) - 1 := by omega
        have i4 : ((k : Int) - 1).toNat = k - 1 := by omega
        have hc := h.cell (j := k - 1) (by rw [← HN.out]; omega)
        obtain ⟨y, hy⟩ : ∃ y, y = 48 + ds.getD (k - 1) 0 := ⟨_, rfl⟩
        rw [← hy] at hc
        by_cases hd : ds.getD (k - 1) 0 = 0
        · have t1 : ((y : Int) == 48) = true := by rw [hy, hd]; rfl
          have HD := Lib.hid hd
          clear hd hy
          go_wp2_with fail
          go_round
          case rel =>
            refine ⟨k - 1, by omega, by go_num, Lib.hid (fun j h1 => ?_)⟩
            by_cases e : j = k - 1
            · rw [e]; exact HD.out
            · exact hZ.out j (by omega)
          case measure => simp [intOf]; omega
        · have t1 : ((y : Int) == 48) = false := beq_eq_false_iff_ne.2 (by omega)
          have HD := Lib.hid hd
          clear hd hy
          go_wp2_with fail
          go_meet
          exact ⟨k, rfl, rfl, Lib.hid ⟨by rw [← HN.out]; exact hk, hZ.out, .inr HD.out⟩, hk⟩
  case rest =>
    obtain ⟨k, rfl, rfl, hT, hk⟩ := hcut
    have i1 : (k : Int) ≤ mc := by omega
    obtain ⟨q1, q2⟩ := h.cut k (by rw [← HN.out]; exact hk)
    have Q2 := Lib.hid q2
    by_cases hk0 : k = 0
    · obtain ⟨r1, r2⟩ := q1.setExp 0
      have R1 := Lib.hid r1
      have R2 := Lib.hid r2
      subst hk0
      clear h q1 q2 r1 r2
      go_wp2_with fail
      go_end0
      exact ⟨rfl, 0, hT.out, by rw [if_pos rfl]; exact R1.out, Q2.out.then R2.out (fun _ _ _ f => f)⟩
    · have t1 : ((k : Int) == 0) = false := by simp; omega
      have Q1 := Lib.hid q1
      have HK := Lib.hid hk0
      clear h q1 q2 hk0
      go_wp2_with fail
      go_end0
      exact ⟨rfl, k, hT.out, by rw [if_neg HK.out]; exact Q1.out, Q2.out⟩
/-- The number that decimal figures stand for, the highest first. -/
def Nd (l : List Nat) : Nat := l.foldl (fun a d => 10 * a + d) 0
theorem Nd_snoc (l : List Nat) (d : Nat) : Nd (l ++ [d]) = 10 * Nd l + d := by simp [Nd]
/-- The same of the first r figures, zeros behind the last one. -/
def Dp (ds : List Nat) (r : Nat) : Nat := Nd (ds.take r) * 10 ^ (r - ds.length)
theorem Dp_zero (ds : List Nat) : Dp ds 0 = 0 := by simp [Dp, Nd]
theorem Dp_succ (ds : List Nat) (r : Nat) : Dp ds (r + 1) = 10 * Dp ds r + ds.getD r 0 := by
  unfold Dp
  by_cases h : r < ds.length
  · rw [List.take_succ_eq_append_getElem h, Nd_snoc, gd_lt h, show r + 1 - ds.length = 0 by omega, show r - ds.length = 0 by omega]
    simp
  · rw [gd_ge (by omega), List.take_of_length_le (by omega), List.take_of_length_le (by omega), show r + 1 - ds.length = (r - ds.length) + 1 by omega, Nat.pow_succ]
    simp only [Nat.add_zero]
    rw [Nat.mul_comm (10 ^ _) 10, Nat.mul_left_comm]
theorem Dp_len (ds : List Nat) : Dp ds ds.length = Nd ds := by simp [Dp]
theorem Dp_ge (ds : List Nat) {r : Nat} (h : ds.length ≤ r) : Dp ds r = Nd ds * 10 ^ (r - ds.length) := by
  unfold Dp; rw [List.take_of_length_le h]
/-- The state of the division by 2^s: what is written, and what is left. -/
def RshRel (ds : List Nat) (s r0 : Nat) (out : List Nat) (n : Nat) : Prop := Dp ds (r0 + out.length) = 10 * Nd out * 2 ^ s + n ∧ n < 10 * 2 ^ s ∧ ∀ d ∈ out, d < 10
theorem RshRel.digit {ds out : List Nat} {s r0 n : Nat} (h : RshRel ds s r0 out n) : n / 2 ^ s < 10 := by
  rw [Nat.div_lt_iff_lt_mul (Nat.two_pow_pos s)]; exact h.2.1
theorem RshRel.step {ds out : List Nat} {s r0 n : Nat} (h : RshRel ds s r0 out n) (hd : ∀ d ∈ ds, d < 10) : RshRel ds s r0 (out ++ [n / 2 ^ s]) (n % 2 ^ s * 10 + ds.getD (r0 + out.length) 0) := by
  have hg := getD_lt (j := r0 + out.length) hd
  have hp := Nat.two_pow_pos s
  have h1 := Nat.mod_lt n hp
  refine ⟨?_, by omega, fun d hd => ?_⟩
  · rw [List.length_append, List.length_singleton, ← Nat.add_assoc, Dp_succ, h.1, Nd_snoc]
    have h2 := Nat.mod_add_div n (2 ^ s)
    generalize n / 2 ^ s = q at *
    generalize n % 2 ^ s = t at *
    generalize 2 ^ s = P at *
    rw [← h2]
    generalize ds.getD (r0 + out.length) 0 = g
    grind
  · rcases List.mem_append.1 hd with h' | h'
    · exact h.2.2 d h'
    · simp at h'; subst h'; exact h.digit
/-- Zeros go down through the rest. -/
theorem twos_step {n s t : Nat} (h : 2 ^ t ∣ n) (ht : t ≤ s) : 2 ^ (t + 1) ∣ n % 2 ^ s * 10 := by
  obtain ⟨q, hq⟩ := h
  have h1 : 2 ^ t ∣ n % 2 ^ s := (Nat.dvd_mod_iff (Nat.pow_dvd_pow 2 ht)).2 ⟨q, hq⟩
  obtain ⟨u, hu⟩ := h1
  exact ⟨u * 5, by rw [hu, Nat.pow_succ]; grind⟩
theorem twos_end {n s : Nat} (h : 2 ^ s ∣ n) : n % 2 ^ s = 0 := Nat.mod_eq_zero_of_dvd h
/-- The decimal 0.ds times 10 to x is A by 2 to p. -/
def VEq (A p : Nat) (ds : List Nat) (x : Int) : Prop := A * 10 ^ ((ds.length : Int) - x).toNat = Nd ds * 10 ^ (x - (ds.length : Int)).toNat * 2 ^ p
theorem Nd_trim {ds : List Nat} {k : Nat} (h : TrimAt ds k) : Nd ds = Nd (ds.take k) * 10 ^ (ds.length - k) := by
  obtain ⟨h1, h2, -⟩ := h
  have key : ∀ j, Dp ds (k + j) = Dp ds k * 10 ^ j := by
    intro j
    induction j with
    | zero => simp
    | succ j ih => rw [← Nat.add_assoc, Dp_succ, ih, h2 _ (by omega), Nat.pow_succ]; grind
  have h3 := key (ds.length - k)
  rw [show k + (ds.length - k) = ds.length by omega, Dp_len] at h3
  rw [h3]; unfold Dp
  rw [show k - ds.length = 0 by omega]; simp
theorem VEq.rsh {A p s r0 k : Nat} {ds out : List Nat} {x : Int} (h : VEq A p ds x) (hr : RshRel ds s r0 out 0) (hl : ds.length ≤ r0 + out.length) (ht : TrimAt out k) : VEq A (p + s) (out.take k) (x + 1 - r0) := by
  unfold VEq at *
  have h1 := hr.1
  rw [Dp_ge _ hl, Nat.add_zero, Nd_trim ht] at h1
  have hk := ht.1
  rw [List.length_take, show min k out.length = k by omega]
  generalize Nd (out.take k) = N' at *
  generalize Nd ds = N at *
  obtain ⟨u, hu⟩ : ∃ u, u = ((ds.length : Int) - x).toNat := ⟨_, rfl⟩
  obtain ⟨v, hv⟩ : ∃ v, v = (x - (ds.length : Int)).toNat := ⟨_, rfl⟩
  obtain ⟨u', hu'⟩ : ∃ u', u' = ((k : Int) - (x + 1 - r0)).toNat := ⟨_, rfl⟩
  obtain ⟨v', hv'⟩ : ∃ v', v' = (x + 1 - r0 - (k : Int)).toNat := ⟨_, rfl⟩
  rw [← hu, ← hv] at h
  rw [← hu', ← hv']
  obtain ⟨a, ha⟩ : ∃ a, a = r0 + out.length - ds.length := ⟨_, rfl⟩
  obtain ⟨c, hc⟩ : ∃ c, c = out.length - k := ⟨_, rfl⟩
  rw [← ha, ← hc] at h1
  have hexp : v + u' + c + 1 = v' + u + a := by omega
  have h10 : 0 < 10 ^ (u + a) := Nat.pow_pos (by decide)
  apply Nat.eq_of_mul_eq_mul_right h10
  have e1 : A * 10 ^ u' * 10 ^ (u + a) = (A * 10 ^ u) * 10 ^ (u' + a) := by rw [Nat.pow_add, Nat.pow_add]; grind
  have e2 : N' * 10 ^ v' * 2 ^ (p + s) * 10 ^ (u + a) = N' * 2 ^ (p + s) * 10 ^ (v' + u + a) := by rw [Nat.add_assoc v', Nat.pow_add 10 v']; grind
  rw [e1, e2, h, ← hexp]
  have e3 : N * 10 ^ v * 2 ^ p * 10 ^ (u' + a) = (N * 10 ^ a) * (10 ^ v * 2 ^ p * 10 ^ u') := by rw [Nat.pow_add]; grind
  rw [e3, h1, Nat.pow_add, Nat.pow_add, Nat.pow_add, Nat.pow_add]
  grind
theorem VEq.trim {A p k : Nat} {ds : List Nat} {x : Int} (h : VEq A p ds x) (ht : TrimAt ds k) : VEq A p (ds.take k) x := by
  unfold VEq at *
  have hk := ht.1
  rw [List.length_take, show min k ds.length = k by omega]
  rw [Nd_trim ht] at h
  generalize Nd (ds.take k) = N' at *
  obtain ⟨u, hu⟩ : ∃ u, u = ((ds.length : Int) - x).toNat := ⟨_, rfl⟩
  obtain ⟨v, hv⟩ : ∃ v, v = (x - (ds.length : Int)).toNat := ⟨_, rfl⟩
  obtain ⟨u', hu'⟩ : ∃ u', u' = ((k : Int) - x).toNat := ⟨_, rfl⟩
  obtain ⟨v', hv'⟩ : ∃ v', v' = (x - (k : Int)).toNat := ⟨_, rfl⟩
  obtain ⟨c, hc⟩ : ∃ c, c = ds.length - k := ⟨_, rfl⟩
  rw [← hu, ← hv, ← hc] at h
  rw [← hu', ← hv']
  have hexp : v + u' + c = v' + u := by omega
  apply Nat.eq_of_mul_eq_mul_right (show 0 < 10 ^ u from Nat.pow_pos (by decide))
  have e1 : A * 10 ^ u' * 10 ^ u = (A * 10 ^ u) * 10 ^ u' := by grind
  have e2 : N' * 10 ^ v' * 2 ^ p * 10 ^ u = N' * 2 ^ p * 10 ^ (v' + u) := by rw [Nat.pow_add]; grind
  rw [e1, h, e2, ← hexp, Nat.pow_add, Nat.pow_add]
  grind
/-- Memory in the midst of the division: out is written, of ds the figures from 'lo' on still stand. -/
structure RshM (w : World) (b mb mo mc L : Nat) (ds out : List Nat) (lo : Nat) (x : Int) : Prop where
  c0 : w.cell? ⟨b, 0, none⟩ = some (.slice (some ⟨mb, mo, none⟩) L mc)
  c1 : w.cell? ⟨b, 1, none⟩ = some (.int .i64 x)
  plain : Plain w b
  own : 17 ≤ b
  nb : NK .u8 256 w mb mo L mc
  ne : mb ≠ b
  outd : ∀ j, j < out.length → wd w mb (mo + j) = 48 + out.getD j 0
  rest : ∀ j, lo ≤ j → j < L → wd w mb (mo + j) = 48 + ds.getD j 0
theorem DeX.rshM {w : World} {b mb mo mc : Nat} {ds : List Nat} {x : Int} (h : DeX w b mb mo mc ds x) (lo : Nat) : RshM w b mb mo mc ds.length ds [] lo x :=
  ⟨h.c0, h.c1, h.plain, h.own, h.nb, h.ne, fun j hj => absurd hj (by simp), fun j _ hj => h.dig j hj⟩
theorem gd_snoc_lt {l : List Nat} {d j : Nat} (h : j < l.length) : (l ++ [d]).getD j 0 = l.getD j 0 := by
  rw [gd_lt h, gd_lt (by simp; omega), List.getElem_append_left h]
theorem gd_snoc_eq (l : List Nat) (d : Nat) : (l ++ [d]).getD l.length 0 = d := by
  rw [gd_lt (by simp)]; simp
/-- The places of a decimal and of its mantissa. -/
def DS (b mb : Nat) : Nat → Nat → Prop := fun x _ => x = b ∨ x = mb
theorem RshM.put {w : World} {b mb mo mc L : Nat} {ds out : List Nat} {lo lo' q : Nat} {x : Int} (h : RshM w b mb mo mc L ds out lo x) (hq : q < 10) (hl : out.length < L) (h1 : out.length < lo') (h2 : lo ≤ lo') :
    RshM (w.setCell ⟨mb, mo + out.length, none⟩ (.int .u8 (48 + q : Nat))) b mb mo mc L ds (out ++ [q]) lo' x ∧ Chg (DS b mb) w (w.setCell ⟨mb, mo + out.length, none⟩ (.int .u8 (48 + q : Nat))) := by
  have hi := h.nb.isI out.length (by have := h.nb.le; omega)
  have hc := Chg.setB (S := DS b mb) (Chg.refl _ w) hi (n := 48 + q) (by omega) (fun _ => .inr rfl)
  have hne := h.ne
  refine ⟨⟨(cell_setCell_ne _ _ _ _ _ _ (.inl (fun e => hne e.symm))).trans h.c0, (cell_setCell_ne _ _ _ _ _ _ (.inl (fun e => hne e.symm))).trans h.c1, hc.plain _ h.plain, h.own, h.nb.chg km8 hc, h.ne, fun j hj => ?_, fun j h3 h4 => ?_⟩, hc⟩
  · rw [List.length_append, List.length_singleton] at hj
    by_cases e : j = out.length
    · subst e
      rw [gd_snoc_eq]; exact wd_setCell_same hi.cell
    · rw [gd_snoc_lt (by omega), wd_setCell_ne (.inr (by omega))]
      exact h.outd j (by omega)
  · rw [wd_setCell_ne (.inr (by omega))]
    exact h.rest j (by omega) h4
theorem RshM.cell {w : World} {b mb mo mc L : Nat} {ds out : List Nat} {lo : Nat} {x : Int} (h : RshM w b mb mo mc L ds out lo x) {j : Nat} (h1 : lo ≤ j) (h2 : j < L) : w.cell? ⟨mb, mo + j, none⟩ = some (.int .u8 (48 + ds.getD j 0 : Nat)) := by
  rw [← h.rest j h1 h2]; exact (h.nb.isI j (by have := h.nb.le; omega)).cell
/-- The first written figure is not 0. -/
def HeadOk (s : Nat) (out : List Nat) (n : Nat) : Prop := (out = [] ∧ 2 ^ s ≤ n) ∨ (0 < out.length ∧ out.getD 0 0 ≠ 0)
theorem HeadOk.step {s n n' : Nat} {out : List Nat} (h : HeadOk s out n) : HeadOk s (out ++ [n / 2 ^ s]) n' := by
  refine .inr ⟨by simp, ?_⟩
  rcases h with ⟨rfl, h⟩ | ⟨h1, h2⟩
  · have : 1 ≤ n / 2 ^ s := (Nat.le_div_iff_mul_le (Nat.two_pow_pos s)).2 (by omega)
    have e : ([] ++ [n / 2 ^ s] : List Nat).getD 0 0 = n / 2 ^ s := rfl
    rw [e]; omega
  · rw [gd_snoc_lt h1]; exact h2
/-- One figure: all numbers of one round, by name. -/
theorem rsh_arith {s n : Nat} (hs : s ≤ 60) (hn : n < 10 * 2 ^ s) (g y : Nat) (hg : g < 10) (hy : y = 48 + g) (mk : Nat) (hmk : mk = 2 ^ s - 1) : ∃ q m1 m2 m3 m4 : Nat,
    (n : Int) / 2 ^ s = (q : Int) ∧ bits BinOp.and .u64 (n : Int) (mk : Int) = (m1 : Int) ∧ IntKind.u64.wrap ((m1 : Int) * 10) = (m2 : Int) ∧ IntKind.u64.wrap ((m2 : Int) + (y : Int)) = (m3 : Int) ∧ IntKind.u64.wrap ((m3 : Int) - 48) = (m4 : Int) ∧
    q < 10 ∧ q = n / 2 ^ s ∧ m2 = n % 2 ^ s * 10 ∧ m4 = n % 2 ^ s * 10 + g := by
  have hp := Nat.two_pow_pos s
  have hp2 : 2 ^ s ≤ 2 ^ 60 := Nat.pow_le_pow_right (by decide) hs
  have h1 := Nat.mod_lt n hp
  have hw : (18446744073709551616 : Nat) = 16 * 2 ^ 60 := by decide
  subst hmk
  refine ⟨n / 2 ^ s, n % 2 ^ s, n % 2 ^ s * 10, n % 2 ^ s * 10 + y, n % 2 ^ s * 10 + g, cast_div_pow n s, ?_, ?_, ?_, ?_, ?_, rfl, rfl, rfl⟩
  · rw [bits_and_u64_nat n _ (by omega) (by omega), Nat.and_two_pow_sub_one_eq_mod]
  · rw [IntKind.wrap_u64]; omega
  · rw [IntKind.wrap_u64]; omega
  · rw [IntKind.wrap_u64]; omega
  · rw [Nat.div_lt_iff_lt_mul hp]; exact hn
/-- Reading a figure ahead of the first one written. -/
theorem rsh_lead {s n : Nat} (hs : s ≤ 60) (hn : n < 2 ^ s) (g y : Nat) (hg : g < 10) (hy : y = 48 + g) : ∃ m2 m3 m4 : Nat,
    IntKind.u64.wrap ((n : Int) * 10) = (m2 : Int) ∧ IntKind.u64.wrap ((m2 : Int) + (y : Int)) = (m3 : Int) ∧ IntKind.u64.wrap ((m3 : Int) - 48) = (m4 : Int) ∧ m4 = 10 * n + g ∧ m2 = 10 * n := by
  have hp2 : 2 ^ s ≤ 2 ^ 60 := Nat.pow_le_pow_right (by decide) hs
  have hw : (18446744073709551616 : Nat) = 16 * 2 ^ 60 := by decide
  refine ⟨10 * n, 10 * n + y, 10 * n + g, ?_, ?_, ?_, rfl, rfl⟩
  · rw [IntKind.wrap_u64]; omega
  · rw [IntKind.wrap_u64]; omega
  · rw [IntKind.wrap_u64]; omega
theorem rsh_test {s n : Nat} : ((n : Int) / 2 ^ s == 0) = decide (n < 2 ^ s) := by
  rw [cast_div_pow]
  have hp := Nat.two_pow_pos s
  by_cases h : n < 2 ^ s
  · rw [decide_eq_true h, Nat.div_eq_of_lt h]; rfl
  · have : 1 ≤ n / 2 ^ s := (Nat.le_div_iff_mul_le hp).2 (by omega)
    rw [decide_eq_false h]
    exact beq_eq_false_iff_ne.2 (by omega)
theorem rsh_mask {s : Nat} (hs : s ≤ 60) : ∃ p1 mk : Nat, IntKind.u64.wrap (2 ^ s) = (p1 : Int) ∧ IntKind.u64.wrap ((p1 : Int) - 1) = (mk : Int) ∧ mk = 2 ^ s - 1 := by
  have hp := Nat.two_pow_pos s
  have hp2 : 2 ^ s ≤ 2 ^ 60 := Nat.pow_le_pow_right (by decide) hs
  have hw : (18446744073709551616 : Nat) = 16 * 2 ^ 60 := by decide
  refine ⟨2 ^ s, 2 ^ s - 1, ?_, ?_, rfl⟩
  · rw [show (2 : Int) ^ s = ((2 ^ s : Nat) : Int) by rw [Int.natCast_pow]; rfl, IntKind.wrap_u64]; omega
  · rw [IntKind.wrap_u64]; omega
theorem info5 : (Tryz.prog.info? 5).map (fun i => (i.zero, i.size, i.bytes)) = some (some (.int .u8 0), 1, 1) := by kernel_rfl
/-- The text of figures. -/
def asc (l : List Nat) : List Nat := l.map fun d => 48 + d
theorem asc_length (l : List Nat) : (asc l).length = l.length := by simp [asc]
theorem asc_lt {l : List Nat} (h : ∀ d ∈ l, d < 10) : ∀ c ∈ asc l, c < 256 := by
  intro c hc
  obtain ⟨d, hd, rfl⟩ := List.mem_map.1 hc
  have := h d hd
  omega
theorem asc_get {l : List Nat} {j : Nat} (h : j < (asc l).length) : (asc l)[j] = 48 + l.getD j 0 := by
  rw [asc_length] at h
  rw [gd_lt h]; simp [asc]
theorem DeX.ls {w : World} {b mb mo mc : Nat} {ds : List Nat} {x : Int} (h : DeX w b mb mo mc ds x) : Ls .u8 256 w (.slice (some ⟨mb, mo, none⟩) ds.length mc) (asc ds) :=
  .inr ⟨mb, mo, mc, by rw [asc_length], by rw [asc_length]; exact h.nb, fun j hj => by rw [asc_get hj]; exact h.dig j (by rwa [asc_length] at hj)⟩
theorem RshM.toDe {w : World} {b mb mo mc L : Nat} {ds out : List Nat} {lo : Nat} {x : Int} (h : RshM w b mb mo mc L ds out lo x) (hl : out.length ≤ L) (hd : ∀ d ∈ out, d < 10) :
    DeX (w.setCell ⟨b, 0, none⟩ (.slice (some ⟨mb, mo, none⟩) out.length mc)) b mb mo mc out x ∧ Chg (DS b mb) w (w.setCell ⟨b, 0, none⟩ (.slice (some ⟨mb, mo, none⟩) out.length mc)) := by
  have hc := (Chg.refl (DS b mb) w).setO (.slice (some ⟨mb, mo, none⟩) out.length mc) h.c0 (by simp) (by simp) (fun _ => .inl rfl)
  exact ⟨⟨World.cell?_setCell_same _ _ _ h.c0, (cell_setCell_ne _ _ _ _ _ _ (.inr (by omega))).trans h.c1, h.plain.setCell _ _, h.own, (h.nb.chg km8 hc).len (by have := h.nb.le; omega), fun j hj => (wd_setCell_ne (.inl h.ne)).trans (h.outd j hj), hd, h.ne⟩, hc⟩
/-- A figure more. -/
theorem DeX.snoc {w w2 : World} {b mb mo mc : Nat} {ds : List Nat} {x : Int} {q : Nat} {r : Value} {ob : Obj} (h : DeX w b mb mo mc ds x) (ha : App .u8 256 (w.alloc ob) w2 (.slice (some ⟨mb, mo, none⟩) ds.length mc) r (asc ds ++ [48 + q])) (hq : q < 10) :
    ∃ mb2 mo2 mc2, r = .slice (some ⟨mb2, mo2, none⟩) (ds.length + 1) mc2 ∧ w2.cell? ⟨b, 0, none⟩ = some (.slice (some ⟨mb, mo, none⟩) ds.length mc) ∧ w2.frozen? ⟨b, 0, none⟩ = false ∧
      DeX (w2.setCell ⟨b, 0, none⟩ (.slice (some ⟨mb2, mo2, none⟩) (ds.length + 1) mc2)) b mb2 mo2 mc2 (ds ++ [q]) x ∧ Chg (DS b mb) w (w2.setCell ⟨b, 0, none⟩ (.slice (some ⟨mb2, mo2, none⟩) (ds.length + 1) mc2)) ∧ (mb2 = mb ∨ w.heap.size ≤ mb2) := by
  have e1 : asc ds ++ [48 + q] = asc (ds ++ [q]) := by simp [asc]
  rw [e1] at ha
  rcases ha.ls with ⟨_, h2⟩ | ⟨mb2, mo2, mc2, rfl, hn, hd⟩
  · simp [asc] at h2
  have hlen : (asc (ds ++ [q])).length = ds.length + 1 := by rw [asc_length]; simp
  have hn' : NK .u8 256 w2 mb2 mo2 (ds.length + 1) mc2 := by rw [← hlen]; exact hn
  have hS : ∀ o, ¬ Fp (.slice (some ⟨mb, mo, none⟩) ds.length mc) b o := fun o f => h.ne f.1.symm
  have ka := ((Chg.refl No w).alloc ob)
  have hp := ha.chg.plain _ (ka.plain _ h.plain)
  have b0 := (ha.chg.cell b 0 (ka.plain _ h.plain).lt (hS 0)).trans ((ka.cell b 0 h.plain.lt (fun f => f)).trans h.c0)
  have b1 := (ha.chg.cell b 1 (ka.plain _ h.plain).lt (hS 1)).trans ((ka.cell b 1 h.plain.lt (fun f => f)).trans h.c1)
  have hmb : mb2 = mb ∨ w.heap.size ≤ mb2 := by
    have hm : 0 < mc2 := by have := hn'.le; omega
    rcases ha.fp mb2 mo2 ⟨rfl, Nat.le_refl _, by simp; omega⟩ with f | f
    · exact .inl f.1
    · simp at f; exact .inr (by omega)
  have hne : mb2 ≠ b := by
    have := h.plain.lt
    rcases hmb with e | e
    · rw [e]; exact h.ne
    · omega
  have hc := (Chg.refl (Blk b) w2).setO (.slice (some ⟨mb2, mo2, none⟩) (ds.length + 1) mc2) b0 (by simp) (by simp) (fun _ => rfl)
  refine ⟨mb2, mo2, mc2, by rw [hlen], b0, hp.free 0, ⟨?_, (cell_setCell_ne _ _ _ _ _ _ (.inr (by omega))).trans b1, hp.setCell _ _, h.own, ?_, fun j hj => ?_, fun d hd => ?_, hne⟩, ?_, hmb⟩
  · rw [List.length_append]; exact World.cell?_setCell_same _ _ _ b0
  · rw [List.length_append]; exact hn'.chg km8 hc
  · rw [wd_setCell_ne (.inl hne)]
    have hj' : j < (asc (ds ++ [q])).length := by rw [asc_length]; exact hj
    rw [hd j hj', asc_get hj']
  · rcases List.mem_append.1 hd with h' | h'
    · exact h.d10 d h'
    · simp at h'; omega
  · refine ((ka.no (S := DS b mb)).then ha.chg (fun y o hy f => .inr f.1)).then hc (fun y o hy f => .inl f)
set_option maxRecDepth 100000 in
set_option maxHeartbeats 2000000 in
theorem dec_rsh (b mb mo mc : Nat) (ds : List Nat) (x : Int) (s : Nat) (w : World) (h : DeX w b mb mo mc ds x) (hl : ds.length < 100000) (hN : Nd ds ≠ 0) (hs : s ≤ 60) (hx1 : -1000000000 ≤ x) (hx2 : x ≤ 1000000000) (h17 : 17 ≤ w.heap.size) :
    Calls Tryz.prog 248 #[.pointer (some ⟨b, 0, none⟩), .int .u64 s] w fun e w' => e = .returned (.tuple #[]) ∧ ∃ mb' mo' mc' ds' x', DeX w' b mb' mo' mc' ds' x' ∧ (∀ A p, VEq A p ds x → VEq A (p + s) ds' x') ∧ 0 < ds'.length ∧ ds'.getD 0 0 ≠ 0 ∧ ds'.getD (ds'.length - 1) 0 ≠ 0 ∧ ds'.length ≤ ds.length + s + 1 ∧ x - ds.length - 64 ≤ x' ∧ x' ≤ x ∧ Chg (DS b mb) w w' ∧ (mb' = mb ∨ w.heap.size ≤ mb') := by
  have c0 := h.c0
  have c1 := h.c1
  have f0 := h.plain.free 0
  have f1 := h.plain.free 1
  have hle := h.nb.le
  have hd10 := Lib.hid h.d10
  obtain ⟨L, hL⟩ : ∃ L, L = ds.length := ⟨_, rfl⟩
  rw [← hL] at c0 hl hle
  have HL := Lib.hid hL
  rw [← hL]
  have HN := Lib.hid hN
  clear hL hN
  go_enter Tryz.func248, Tryz.ntmps248
  go_upto_block 0 with fail
  go_cut [4, 5] (fun r nv wx => ∃ k n : Nat, r = .int .i64 k ∧ nv = .int .u64 n ∧ w = wx ∧ k ≤ L ∧ Hid (n = Dp ds k) ∧ Hid (n < 10 * 2 ^ s) ∧ Hid (2 ^ s ≤ n ∨ k = L))
  case first =>
    go_wp2_with fail
    go_loop [4, 5] (fun r nv => ∃ k n : Nat, r = .int .i64 k ∧ nv = .int .u64 n ∧ k ≤ L ∧ Hid (n = Dp ds k) ∧ Hid (n < 10 * 2 ^ s)) (fun r _ => L - (intOf r).toNat)
    case atStart => exact ⟨0, 0, rfl, rfl, by omega, Lib.hid (Dp_zero ds).symm, Lib.hid (by have := Nat.two_pow_pos s; omega)⟩
    case round =>
      obtain ⟨k, n, rfl, rfl, hk, hn, hn2⟩ := hrel
      by_cases ht : n < 2 ^ s
      · have t1 : ((n : Int) / 2 ^ s == 0) = true := by rw [rsh_test]; exact decide_eq_true ht
        by_cases hlt : k < L
        · have i1 : (k : Int) < L := by omega
          obtain ⟨y, hy⟩ : ∃ y, y = 48 + ds.getD k 0 := ⟨_, rfl⟩
          have hc := h.cell (j := k) (by rw [← HL.out]; exact hlt)
          rw [← hy] at hc
          have hg := getD_lt (j := k) hd10.out
          have hyb : y < 256 := by omega
          obtain ⟨m2, m3, m4, e1, e2, e3, e4, e5⟩ := rsh_lead hs ht _ y hg hy
          have E4 := Lib.hid e4
          have HT := Lib.hid ht
          have HG := Lib.hid hg
          clear e4 e5 ht hy hg
          go_wp2_with fail
          go_round
          case rel =>
            refine ⟨k + 1, m4, by go_num, rfl, by omega, Lib.hid ?_, Lib.hid ?_⟩
            · rw [Dp_succ, ← hn.out]; exact E4.out
            · have := E4.out; have := HG.out; have := HT.out; omega
          case measure => simp [intOf]; omega
        · have i1 : ¬ (k : Int) < L := by omega
          have t2 : decide ((k : Int) < L) = false := decide_eq_false i1
          clear ht
          go_wp2_with fail
          go_meet
          exact ⟨k, n, rfl, rfl, rfl, hk, hn, hn2, Lib.hid (.inr (by omega))⟩
      · have t1 : ((n : Int) / 2 ^ s == 0) = false := by rw [rsh_test]; exact decide_eq_false ht
        have HT := Lib.hid ht
        clear ht
        go_wp2_with fail
        go_meet
        exact ⟨k, n, rfl, rfl, rfl, hk, hn, hn2, Lib.hid (.inl (by have := HT.out; omega))⟩
  case rest =>
    obtain ⟨k, n, rfl, rfl, rfl, hk, hn, hn2, hn3⟩ := hcut
    have hn0 : n ≠ 0 := by
      rcases hn3.out with e | e
      · have := Nat.two_pow_pos s; omega
      · rw [hn.out, e, HL.out, Dp_len]; exact HN.out
    have t0 : ((n : Int) == 0) = false := beq_eq_false_iff_ne.2 (by omega)
    have HN0 := Lib.hid hn0
    clear hn0
    go_upto_block 2 with fail
    go_cut [4, 5] (fun r nv wx => ∃ r0 n : Nat, r = .int .i64 r0 ∧ nv = .int .u64 n ∧ w = wx ∧ Hid (n = Dp ds r0) ∧ Hid (2 ^ s ≤ n) ∧ Hid (n < 10 * 2 ^ s) ∧ r0 ≤ L + 64 ∧ 1 ≤ r0)
    case first =>
      go_wp2_with fail
      go_loopg [4, 5] (2 ^ s) (fun gk r nv wx => ∃ k' n' j : Nat, r = .int .i64 k' ∧ nv = .int .u64 n' ∧ w = wx ∧ Hid (n' = Dp ds k') ∧ Hid (n' < 10 * 2 ^ s) ∧ Hid (k' = k + j) ∧ Hid (2 ^ j ≤ n') ∧ Hid (2 ^ s - n' ≤ gk) ∧ Hid (k' ≤ L + 64) ∧ Hid (2 ^ s ≤ n' ∨ L ≤ k'))
      case atStart => exact ⟨k, n, 0, rfl, rfl, rfl, hn, hn2, Lib.hid rfl, Lib.hid (by have := HN0.out; simp; omega), Lib.hid (Nat.sub_le _ _), Lib.hid (by omega), Lib.hid (hn3.out.imp id (fun e => by omega))⟩
      case round =>
        obtain ⟨k', n', j, rfl, rfl, rfl, q1, q2, q3, q4, q5, q6, q7⟩ := hrel
        by_cases ht : n' < 2 ^ s
        · have t1 : ((n' : Int) / 2 ^ s == 0) = true := by rw [rsh_test]; exact decide_eq_true ht
          have hj : j ≤ 60 := by
            have h1 : 2 ^ j < 2 ^ s := Nat.lt_of_le_of_lt q4.out ht
            have := (Nat.pow_lt_pow_iff_right (a := 2) (by decide)).1 h1
            omega
          obtain ⟨m2, m3, m4, e1, -, -, -, e5⟩ := rsh_lead hs ht 0 48 (by omega) rfl
          have hLk : L ≤ k' := by rcases q7.out with h | h <;> omega
          have hkb : k' ≤ 200000 := by have := q6.out; omega
          have hpow : 2 ^ j * 2 ≤ m2 := by have := q4.out; omega
          have hnew : m2 = Dp ds (k' + 1) := by rw [Dp_succ, ← q1.out, gd_ge (by rw [← HL.out]; exact hLk), e5]; rfl
          have R := Lib.hid (show m2 = Dp ds (k' + 1) ∧ m2 < 10 * 2 ^ s ∧ k' + 1 = k + (j + 1) ∧ 2 ^ (j + 1) ≤ m2 ∧ 2 ^ s - m2 < gk ∧ k' + 1 ≤ L + 64 ∧ L ≤ k' + 1 from by
            have := q3.out; have := q5.out; have := q4.out; have := Nat.two_pow_pos j
            exact ⟨hnew, by omega, by omega, by rw [Nat.pow_succ]; exact hpow, by omega, by omega, by omega⟩)
          obtain ⟨g1, rfl⟩ : ∃ g1, gk = g1 + 1 := ⟨gk - 1, by have := R.out.2.2.2.2.1; omega⟩
          clear ht hpow hnew e5 hj hLk
          go_wp2_with fail
          go_roundg g1
          case measure => omega
          case rel =>
            obtain ⟨r1, r2, r3, r4, r5, r6, r7⟩ := R.out
            exact ⟨k' + 1, m2, j + 1, by go_num, rfl, rfl, Lib.hid r1, Lib.hid r2, Lib.hid r3, Lib.hid r4, Lib.hid (by omega), Lib.hid r6, Lib.hid (.inr r7)⟩
        · have t1 : ((n' : Int) / 2 ^ s == 0) = false := by rw [rsh_test]; exact decide_eq_false ht
          have HT := Lib.hid ht
          clear ht
          go_wp2_with fail
          go_meet
          refine ⟨k', n', rfl, rfl, rfl, q1, Lib.hid (by have := HT.out; omega), q2, q6.out, ?_⟩
          rcases Nat.eq_zero_or_pos k' with e | e
          · exfalso
            have := q1.out; rw [e, Dp_zero] at this
            have := HT.out; have := Nat.two_pow_pos s; omega
          · exact e
    case rest =>
      clear hn hn2 hn3 HN0 t0 hk
      obtain ⟨r0, n, rfl, rfl, rfl, hn, hn1, hn2, hr1, hr2⟩ := hcut
      obtain ⟨x1, hx1e⟩ : ∃ x1, x1 = x + (1 - (r0 : Int)) := ⟨_, rfl⟩
      obtain ⟨h1, k1⟩ := h.setExp x1
      have K1 := Lib.hid k1
      have H1 := Lib.hid h1
      have hx1w : x + (1 - (r0 : Int)) = x1 := hx1e.symm
      have HX1 := Lib.hid hx1e
      obtain ⟨p1, mk, em1, em2, hmk⟩ := rsh_mask hs
      have HMK := Lib.hid hmk
      clear h h1 k1 hmk hx1e
      go_upto_block 4 with fail
      generalize w.setCell ⟨b, 1, none⟩ (.int .i64 x1) = w1 at H1 K1 ⊢
      have M1 := H1.out.rshM r0
      rw [← HL.out] at M1
      have HM1 := Lib.hid M1
      have HR1 : Hid (RshRel ds s r0 [] n) := Lib.hid ⟨by show Dp ds r0 = 10 * 0 * 2 ^ s + n; rw [← hn.out]; simp, hn2.out, fun d hd => by simp at hd⟩
      have HH1 : Hid (HeadOk s [] n) := Lib.hid (.inl ⟨rfl, hn1.out⟩)
      clear M1
      go_cut [4, 5, 7] (fun r nv wv wx => ∃ (rr n : Nat) (out : List Nat), r = .int .i64 rr ∧ nv = .int .u64 n ∧ wv = .int .i64 out.length ∧ Hid (RshRel ds s r0 out n) ∧ Hid (RshM wx b mb mo mc L ds out L x1) ∧ Hid (HeadOk s out n) ∧ Hid (Chg (DS b mb) w1 wx) ∧ Hid (L ≤ r0 + out.length) ∧ out.length ≤ L)
      case first =>
        go_wp2_with fail
        go_loopg [4, 5, 7] L (fun gk r nv wv wr => ∃ (rr ol n : Nat) (out : List Nat), r = .int .i64 rr ∧ nv = .int .u64 n ∧ wv = .int .i64 ol ∧ Hid (rr = r0 + out.length ∧ ol = out.length ∧ ol ≤ L) ∧ Hid (RshRel ds s r0 out n) ∧ Hid (RshM wr b mb mo mc L ds out rr x1) ∧ Hid (HeadOk s out n) ∧ Hid (Chg (DS b mb) w1 wr) ∧ Hid (L - rr ≤ gk) ∧ rr ≤ 300000)
        case atStart => exact ⟨r0, 0, n, [], rfl, rfl, rfl, Lib.hid ⟨rfl, rfl, by omega⟩, HR1, HM1, HH1, Lib.hid (Chg.refl _ _), Lib.hid (Nat.sub_le _ _), by omega⟩
        case round =>
          obtain ⟨rr, ol, n, out, rfl, rfl, rfl, q1, q2, q3, q4, q5, q6, q7⟩ := hrel
          have b0 := q3.out.c0
          by_cases hlt : rr < L
          · have i1 : (rr : Int) < L := by omega
            have i2 : (ol : Int) < L := by have := q1.out; omega
            have i3 : ol ≤ 300000 := by have := q1.out; omega
            obtain ⟨y, hy⟩ : ∃ y, y = 48 + ds.getD rr 0 := ⟨_, rfl⟩
            have hc := q3.out.cell (j := rr) (Nat.le_refl _) hlt
            rw [← hy] at hc
            have hg := getD_lt (j := rr) hd10.out
            have hyb : y < 256 := by omega
            obtain ⟨q, m1, m2, m3, m4, e1, e2, e3, e4, e5, hq, hq1, -, hm4⟩ := rsh_arith hs q2.out.2.1 _ y hg hy mk HMK.out
            have cz := (q3.out.nb.isI ol (by have := q1.out; omega)).cell
            have fz := q3.out.plain.free 0
            have fz2 := q3.out.nb.plain.free (mo + ol)
            obtain ⟨z1, z2⟩ := q3.out.put (lo' := rr + 1) (q := q) hq (by have := q1.out; omega) (by have := q1.out; omega) (by omega)
            rw [← q1.out.2.1, show ((48 + q : Nat) : Int) = (q : Int) + 48 by omega] at z1 z2
            have Z1 := Lib.hid z1
            have Z2 := Lib.hid z2
            have HQ := Lib.hid hq1
            have HM4 := Lib.hid hm4
            obtain ⟨g1, rfl⟩ : ∃ g1, gk = g1 + 1 := ⟨gk - 1, by have := q6.out; omega⟩
            clear hy hg z1 z2 hq1 hm4
            go_wp2_with fail
            go_roundg g1
            case measure => omega
            case rel =>
              have st := q2.out.step hd10.out
              rw [← q1.out.1, ← HM4.out, ← HQ.out] at st
              have hst := (q4.out.step (n' := m4))
              rw [← HQ.out] at hst
              exact ⟨rr + 1, ol + 1, m4, out ++ [q], by go_num, rfl, by go_num, Lib.hid (by have := q1.out; simp; omega), Lib.hid st, Z1, Lib.hid hst, Lib.hid (q5.out.then Z2.out (fun _ _ _ h => h)), Lib.hid (by have := q6.out; omega), by have := q1.out; omega⟩
          · have i1 : ¬ (rr : Int) < L := by omega
            go_wp2_with fail
            go_meet
            exact ⟨rr, n, out, rfl, rfl, by rw [q1.out.2.1], q2, Lib.hid ⟨q3.out.c0, q3.out.c1, q3.out.plain, q3.out.own, q3.out.nb, q3.out.ne, q3.out.outd, fun j h1 h2 => absurd h2 (by omega)⟩, q4, q5, Lib.hid (by have := q1.out; omega), by have := q1.out; omega⟩
      case rest =>
        clear hn hn1 hn2 HR1 HH1 HM1
        obtain ⟨rr, n, out, rfl, rfl, rfl, q2, q3, q4, q5, q6, q7⟩ := hcut
        go_upto_block 6 with fail
        go_cut [5, 7] (fun nv wv wx => ∃ (n : Nat) (out : List Nat), nv = .int .u64 n ∧ wv = .int .i64 out.length ∧ Hid (RshRel ds s r0 out n) ∧ Hid (RshM wx b mb mo mc L ds out L x1) ∧ Hid (HeadOk s out n) ∧ Hid (Chg (DS b mb) w1 wx) ∧ Hid (L ≤ r0 + out.length) ∧ out.length ≤ L)
        case first =>
          go_wp2_with fail
          go_loopg [5, 7] L (fun gk nv wv wr => ∃ (ol n : Nat) (out : List Nat), nv = .int .u64 n ∧ wv = .int .i64 ol ∧ Hid (ol = out.length) ∧ Hid (RshRel ds s r0 out n) ∧ Hid (RshM wr b mb mo mc L ds out L x1) ∧ Hid (HeadOk s out n) ∧ Hid (Chg (DS b mb) w1 wr) ∧ Hid (L - ol ≤ gk) ∧ Hid (L ≤ r0 + out.length) ∧ ol ≤ L)
          case atStart => exact ⟨out.length, n, out, rfl, rfl, Lib.hid rfl, q2, q3, q4, q5, Lib.hid (Nat.sub_le _ _), q6, q7⟩
          case round =>
            clear q2 q3 q4 q5 q6 q7
            obtain ⟨ol, n, out, rfl, rfl, q1, q2, q3, q4, q5, q6, q7, q8⟩ := hrel
            have b0 := q3.out.c0
            by_cases hn0 : n = 0
            · subst hn0
              go_wp2_with fail
              go_meet
              exact ⟨0, out, rfl, by rw [q1.out], q2, q3, q4, q5, q7, by rw [← q1.out]; exact q8⟩
            · have t1 : decide (0 < n) = true := decide_eq_true (by omega)
              by_cases hlt : ol < L
              · have i1 : (ol : Int) < L := by omega
                obtain ⟨q, m1, m2, m3, m4, e1, e2, e3, e4, e5, hq, hq1, hm2, hm4⟩ := rsh_arith hs q2.out.2.1 0 48 (by omega) rfl mk HMK.out
                have cz := (q3.out.nb.isI ol (by omega)).cell
                have fz2 := q3.out.nb.plain.free (mo + ol)
                obtain ⟨z1, z2⟩ := q3.out.put (lo' := L) (q := q) hq (by have := q1.out; omega) (by have := q1.out; omega) (by omega)
                rw [← q1.out, show ((48 + q : Nat) : Int) = (q : Int) + 48 by omega] at z1 z2
                have Z1 := Lib.hid z1
                have Z2 := Lib.hid z2
                have HQ := Lib.hid hq1
                have HM2 := Lib.hid hm2
                obtain ⟨g1, rfl⟩ : ∃ g1, gk = g1 + 1 := ⟨gk - 1, by have := q6.out; omega⟩
                clear z1 z2 hq1 hm4 hm2 e4 e5 hn0
                go_wp2_with fail
                go_roundg g1
                case measure => omega
                case rel =>
                  have st := q2.out.step hd10.out
                  rw [gd_ge (by rw [← HL.out]; exact q7.out), Nat.add_zero, ← HM2.out, ← HQ.out] at st
                  have hst := (q4.out.step (n' := m2))
                  rw [← HQ.out] at hst
                  exact ⟨ol + 1, m2, out ++ [q], rfl, by go_num, Lib.hid (by have := q1.out; simp; omega), Lib.hid st, Z1, Lib.hid hst, Lib.hid (q5.out.then Z2.out (fun _ _ _ h => h)), Lib.hid (by have := q6.out; omega), Lib.hid (by have := q7.out; simp; omega), by omega⟩
              · have i1 : ¬ (ol : Int) < L := by omega
                clear hn0
                go_wp2_with fail
                go_meet
                exact ⟨n, out, rfl, by rw [q1.out], q2, q3, q4, q5, q7, by rw [← q1.out]; exact q8⟩
        case rest =>
          clear q2 q3 q4 q5 q6 q7
          obtain ⟨n, out, rfl, rfl, q2, q3, q4, q5, q6, q7⟩ := hcut
          have b0 := q3.out.c0
          have hle2 := q3.out.nb.le
          have fz := q3.out.plain.free 0
          obtain ⟨D1, k2⟩ := q3.out.toDe q7 q2.out.2.2
          have HD1 := Lib.hid D1
          have HK2 := Lib.hid (q5.out.then k2 (fun _ _ _ h => h))
          have hL17 : 17 ≤ w1.heap.size := by have := K1.out.size; omega
          clear D1 k2
          have i0 : (out.length : Int) ≤ mc := by omega
          go_upto_block 8 with fail
          generalize wc.setCell ⟨b, 0, none⟩ (.slice (some ⟨mb, mo, none⟩) out.length mc) = w2 at HD1 HK2 ⊢
          obtain ⟨ci, hi1, hi2, hi3, hi4⟩ := info_of info5
          go_cut [5] (fun nv wx => ∃ (mb' mo' mc' : Nat) (out : List Nat), nv = .int .u64 0 ∧ Hid (RshRel ds s r0 out 0) ∧ Hid (DeX wx b mb' mo' mc' out x1) ∧ Hid (HeadOk s out 0) ∧ Hid (Chg (DS b mb) w1 wx) ∧ Hid (mb' = mb ∨ w1.heap.size ≤ mb') ∧ Hid (L ≤ r0 + out.length) ∧ out.length ≤ L + s + 1)
          case first =>
            go_wp2_with fail
            go_loopg [5] (s + 1) (fun gk nv wr => ∃ (n mb' mo' mc' : Nat) (out : List Nat), nv = .int .u64 n ∧ Hid (RshRel ds s r0 out n) ∧ Hid (DeX wr b mb' mo' mc' out x1) ∧ Hid (HeadOk s out n) ∧ Hid (Chg (DS b mb) w1 wr) ∧ Hid (mb' = mb ∨ w1.heap.size ≤ mb') ∧ Hid (L ≤ r0 + out.length) ∧ Hid (out.length + gk ≤ L + s + 1) ∧ Hid (n = 0 ∨ ∃ t, 2 ^ t ∣ n ∧ t + gk = s + 1 ∧ t ≤ s))
            case atStart => exact ⟨n, mb, mo, mc, out, rfl, q2, HD1, q4, HK2, Lib.hid (.inl rfl), q6, Lib.hid (by omega), Lib.hid (.inr ⟨0, by simp, by omega, by omega⟩)⟩
            case round =>
              clear q2 q3 q4 q5 q6 HD1 HK2 i0 q7
              obtain ⟨n, mb', mo', mc', out, rfl, q2, q3, q4, q5, q6, q7, q8, q9⟩ := hrel
              by_cases hn0 : n = 0
              · subst hn0
                go_wp2_with fail
                go_meet
                exact ⟨mb', mo', mc', out, rfl, q2, q3, q4, q5, q6, q7, by have := q8.out; omega⟩
              · have t1 : decide (0 < n) = true := decide_eq_true (by omega)
                obtain ⟨q, m1, m2, m3, m4, e1, e2, e3, e4, e5, hq, hq1, hm2, hm4⟩ := rsh_arith hs q2.out.2.1 0 48 (by omega) rfl mk HMK.out
                obtain ⟨q48, hq48⟩ : ∃ q48 : Nat, q48 = 48 + q := ⟨_, rfl⟩
                have e6 : (q : Int) + 48 = (q48 : Int) := by omega
                have hq256 : q48 < 256 := by omega
                have b0 := q3.out.c0
                have HQ := Lib.hid hq1
                have HM2 := Lib.hid hm2
                have HQ48 := Lib.hid hq48
                obtain ⟨g1, hg1, hg2⟩ : ∃ g1, gk = g1 + 1 ∧ Hid (m2 = 0 ∨ ∃ t, 2 ^ t ∣ m2 ∧ t + g1 = s + 1 ∧ t ≤ s) := by
                  rcases q9.out with e | ⟨t, ht1, ht2, ht3⟩
                  · exact absurd e hn0
                  · refine ⟨gk - 1, by omega, Lib.hid ?_⟩
                    by_cases e : t = s
                    · subst e
                      left; rw [hm2, twos_end ht1]
                    · exact .inr ⟨t + 1, by rw [hm2]; exact twos_step ht1 ht3, by omega, by omega⟩
                subst hg1
                have LS := Lib.hid q3.out.ls
                have h17r := Nat.le_trans hL17 q5.out.size
                clear hn0 hq1 hm2 hm4 e4 e5 hq48
                go_wp2_with (refine wpList_append_num rfl km8 (.tmp 161) (.tmp 165) 56 56 5 rfl ci Tryz.underlying56 hi1 hi2 hi3 (by rw [hi4]; omega) _ (asc out) rfl (Ls.alloc km8 LS.out _) _ rfl [q48] (Src.one Tryz.underlying56 _ _ _ _) (by simpa using hq256) (by simp) (by rw [asc_length]; have := q8.out; simp; omega) (by simp; omega) ?_; intro r w3 happ; rw [HQ48.out] at happ; obtain ⟨mb2, mo2, mc2, rfl, n0, nf, nd, nk, nm⟩ := q3.out.snoc happ hq; have ND := Lib.hid nd; have NK' := Lib.hid nk; have NM := Lib.hid nm; clear nd nk nm happ)
                go_roundg g1
                case measure => omega
                case rel =>
                  have st := q2.out.step hd10.out
                  rw [gd_ge (by rw [← HL.out]; exact q7.out), Nat.add_zero, ← HM2.out, ← HQ.out] at st
                  have hst := (q4.out.step (n' := m2))
                  rw [← HQ.out] at hst
                  refine ⟨m2, mb2, mo2, mc2, out ++ [q], rfl, Lib.hid st, ND, Lib.hid hst, Lib.hid (q5.out.then NK'.out (fun y o hy f => ?_)), Lib.hid ?_, Lib.hid (by have := q7.out; simp; omega), Lib.hid (by have := q8.out; simp; omega), hg2⟩
                  · rcases f with f | f
                    · exact .inl f
                    · rcases q6.out with e | e
                      · exact .inr (by omega)
                      · omega
                  · have := q5.out.size
                    rcases NM.out with e | e
                    · rw [e]; exact q6.out
                    · exact .inr (by omega)
          case rest =>
            clear q2 q3 q4 q5 q6 HD1 HK2 i0 q7 b0 fz
            obtain ⟨mb', mo', mc', out, rfl, q2, q3, q4, q5, q6, q7, q8⟩ := hcut
            have HT := Lib.hid (dec_trim b mb' mo' mc' out x1 _ q3.out (by omega))
            go_wp2_with fail
            refine HT.out.mono ?_
            rintro r w5 ⟨rfl, k, ht, hd, hk⟩
            have T := Lib.hid ht
            have D := Lib.hid hd
            have K := Lib.hid hk
            clear ht hd hk
            go_wp2_with fail
            go_end0
            have hhd : 0 < out.length ∧ out.getD 0 0 ≠ 0 := by
              rcases q4.out with ⟨_, e⟩ | e
              · have := Nat.two_pow_pos s; omega
              · exact e
            have hk0 : k ≠ 0 := by
              intro e; subst e
              exact hhd.2 (T.out.2.1 0 (by omega))
            have hkl := T.out.1
            have hD := D.out
            rw [if_neg hk0] at hD
            have hlen : (out.take k).length = k := by rw [List.length_take]; omega
            refine ⟨rfl, mb', mo', mc', out.take k, x1, hD, fun A p hv => ?_, by rw [hlen]; omega, ?_, ?_, by rw [hlen]; omega, by rw [HX1.out]; omega, by rw [HX1.out]; omega, ?_, ?_⟩
            · have := hv.rsh q2.out (by rw [← HL.out]; exact q7.out) T.out
              rw [show x1 = x + 1 - r0 by rw [HX1.out]; omega]
              exact this
            · rw [gd_lt (by omega), List.getElem_take, ← gd_lt (by omega)]; exact hhd.2
            · rw [hlen, gd_lt (by omega), List.getElem_take, ← gd_lt (by omega)]
              exact T.out.2.2.resolve_left hk0
            · exact ((K1.out.mono (T := DS b mb) (fun _ _ _ f => .inl f)).then q5.out (fun y o hy f => f)).then K.out (fun y o hy f => .inl f)
            · have := K1.out.size
              rcases q6.out with e | e
              · exact .inl e
              · exact .inr (by omega)
theorem archLog_val (w : World) : (callFunc 315 #[.float .f64 4603804719079489536]).run Tryz.prog w = .ok (.value (.float .f64 13825510489450817230)) w := by kernel_rfl
/-- 10, 10/16, its logarithm, the latter by log 2, and the logarithm of 10 to base 2, as patterns of bits. -/
def F10 : Nat := 4621819117588971520
def FM : Nat := 4603804719079489536
def FLog : Nat := 13825510489450817230
def FLm : Nat := 13827654785158443579
def FL10 : Nat := 4614662735865160561
def F4 : Nat := 4616189618054758400
def I10 : Int := 4621819117588971520
def I10b : Int := 1125899906842624
def IM : Int := 4603804719079489536
set_option maxRecDepth 100000 in
set_option maxHeartbeats 1000000 in
theorem math_Log (w : World) : Calls Tryz.prog 304 #[.float .f64 FM] w fun e w' => e = .returned (.float .f64 FLog) ∧ w = w' := by
  have h : ∀ w, (callFunc 315 #[.float .f64 FM]).run Tryz.prog w = .ok (.value (.float .f64 FLog)) w := archLog_val
  go_enter Tryz.func304, Tryz.ntmps304
  go_wp2_with fail
  go_ret
  exact ⟨rfl, rfl⟩
theorem f64bits (w : World) : (callFunc 327 #[.float .f64 F10]).run Tryz.prog w = .ok (.value (.int .u64 I10)) w := by kernel_rfl
theorem f64from10 (w : World) : (callFunc 328 #[.int .u64 I10]).run Tryz.prog w = .ok (.value (.float .f64 F10)) w := by kernel_rfl
theorem f64fromM (w : World) : (callFunc 328 #[.int .u64 IM]).run Tryz.prog w = .ok (.value (.float .f64 FM)) w := by kernel_rfl
theorem fbit1 : bits BinOp.andNot .u64 I10 9223372036854775808 = I10 := by decide +kernel
theorem fbit2 : bits BinOp.andNot .u64 I10 9218868437227405312 = I10b := by decide +kernel
theorem fbit3 : bits BinOp.or .u64 I10b 4602678819172646912 = IM := by decide +kernel
theorem fbit4 : bits BinOp.and .u64 (I10 / 4503599627370496) 2047 = 1026 := by decide +kernel
set_option maxRecDepth 100000 in
set_option maxHeartbeats 1000000 in
theorem math_Abs10 (w : World) : Calls Tryz.prog 335 #[.float .f64 F10] w fun e w' => e = .returned (.float .f64 F10) ∧ w = w' := by
  have h1 := f64bits
  have h2 := f64from10
  have h3 := fbit1
  go_enter Tryz.func335, Tryz.ntmps335
  go_wp2_with fail
  go_ret
  exact ⟨rfl, rfl⟩
theorem fc1 (w : World) : (binOp .gtr 273 (.float .f64 F10) (.float .f64 9218868437227405311)).run Tryz.prog w = .ok (.bool false) w := by kernel_rfl
theorem fc2 (w : World) : (binOp .neq 273 (.float .f64 F10) (.float .f64 F10)).run Tryz.prog w = .ok (.bool false) w := by kernel_rfl
theorem fc3 (w : World) : (binOp .lss 273 (.float .f64 F10) (.float .f64 4503599627370496)).run Tryz.prog w = .ok (.bool false) w := by kernel_rfl
theorem fc4 (w : World) : (binOp .eql 273 (.float .f64 F10) (.float .f64 0)).run Tryz.prog w = .ok (.bool false) w := by kernel_rfl
theorem fc5 (w : World) : (binOp .eql 273 (.float .f64 FM) (.float .f64 4602678819172646912)).run Tryz.prog w = .ok (.bool false) w := by kernel_rfl
theorem fc6 (w : World) : (binOp .mul 273 (.float .f64 FLog) (.float .f64 4609176140021203710)).run Tryz.prog w = .ok (.float .f64 FLm) w := by kernel_rfl
theorem fc7 (w : World) : (binOp .add 273 (.float .f64 FLm) (.float .f64 F4)).run Tryz.prog w = .ok (.float .f64 FL10) w := by kernel_rfl
theorem fc8 (w : World) : (convert 3 273 (.int .i64 4)).run Tryz.prog w = .ok (.float .f64 F4) w := by kernel_rfl
theorem fc9 (w : World) : (convert 3 273 (.int .i64 10)).run Tryz.prog w = .ok (.float .f64 F10) w := by kernel_rfl
set_option maxRecDepth 100000 in
set_option maxHeartbeats 1000000 in
theorem math_IsInf10 (w : World) : Calls Tryz.prog 324 #[.float .f64 F10, .int .i64 0] w fun e w' => e = .returned (.bool false) ∧ w = w' := by
  have h1 := fc1
  go_enter Tryz.func324, Tryz.ntmps324
  go_wp2_with (go_at_call 335; refine (math_Abs10 _).mono ?_; rintro e w' ⟨rfl, rfl⟩)
  go_ret
  exact ⟨rfl, rfl⟩
set_option maxRecDepth 100000 in
set_option maxHeartbeats 1000000 in
theorem math_IsNaN10 (w : World) : Calls Tryz.prog 325 #[.float .f64 F10] w fun e w' => e = .returned (.bool false) ∧ w = w' := by
  have h1 := fc2
  go_enter Tryz.func325, Tryz.ntmps325
  go_wp2_with fail
  go_ret
  exact ⟨rfl, rfl⟩
set_option maxRecDepth 100000 in
set_option maxHeartbeats 1000000 in
theorem math_normalize10 (w : World) : Calls Tryz.prog 326 #[.float .f64 F10] w fun e w' => e = .returned (.tuple #[.float .f64 F10, .int .i64 0]) ∧ w = w' := by
  have h1 := fc3
  go_enter Tryz.func326, Tryz.ntmps326
  go_wp2_with (go_at_call 335; refine (math_Abs10 _).mono ?_; rintro e w' ⟨rfl, rfl⟩)
  go_ret2
  exact ⟨rfl, rfl⟩
set_option maxRecDepth 100000 in
set_option maxHeartbeats 1000000 in
theorem math_frexp10 (w : World) : Calls Tryz.prog 314 #[.float .f64 F10] w fun e w' => e = .returned (.tuple #[.float .f64 FM, .int .i64 4]) ∧ w = w' := by
  have h1 := fc4
  have h2 := f64bits
  have h3 := f64fromM
  have h4 := fbit2
  have h5 := fbit3
  have h6 := fbit4
  go_enter Tryz.func314, Tryz.ntmps314
  go_wp2_with (first
    | (go_at_call 324; refine (math_IsInf10 _).mono ?_; rintro e w' ⟨rfl, rfl⟩)
    | (go_at_call 325; refine (math_IsNaN10 _).mono ?_; rintro e w' ⟨rfl, rfl⟩)
    | (go_at_call 326; refine (math_normalize10 _).mono ?_; rintro e w' ⟨rfl, rfl⟩))
  go_ret2
  exact ⟨rfl, rfl⟩
set_option maxRecDepth 100000 in
set_option maxHeartbeats 1000000 in
theorem math_Frexp10 (w : World) : Calls Tryz.prog 303 #[.float .f64 F10] w fun e w' => e = .returned (.tuple #[.float .f64 FM, .int .i64 4]) ∧ w = w' := by
  go_enter Tryz.func303, Tryz.ntmps303
  go_wp2_with (go_at_call 314; refine (math_frexp10 _).mono ?_; rintro e w' ⟨rfl, rfl⟩)
  go_ret2
  exact ⟨rfl, rfl⟩
set_option maxRecDepth 100000 in
set_option maxHeartbeats 1000000 in
theorem math_log2_10 (w : World) : Calls Tryz.prog 274 #[.float .f64 F10] w fun e w' => e = .returned (.float .f64 FL10) ∧ w = w' := by
  have h1 := fc5
  have h2 := fc6
  have h3 := fc7
  have h4 := fc8
  go_enter Tryz.func274, Tryz.ntmps274
  go_wp2_with (first
    | (go_at_call 303; refine (math_Frexp10 _).mono ?_; rintro e w' ⟨rfl, rfl⟩)
    | (go_at_call 304; refine (math_Log _).mono ?_; rintro e w' ⟨rfl, rfl⟩))
  go_ret
  exact ⟨rfl, rfl⟩
set_option maxRecDepth 100000 in
set_option maxHeartbeats 1000000 in
theorem math_Log2_10 (w : World) : Calls Tryz.prog 236 #[.float .f64 F10] w fun e w' => e = .returned (.float .f64 FL10) ∧ w = w' := by
  go_enter Tryz.func236, Tryz.ntmps236
  go_wp2_with (go_at_call 274; refine (math_log2_10 _).mono ?_; rintro e w' ⟨rfl, rfl⟩)
  go_ret
  exact ⟨rfl, rfl⟩
/-- How many figures a number of n bits has at most, less one: n by log 10, cut. -/
def est (n : Nat) : Nat := match (FloatKind.f64.format.div (FloatKind.f64.nearest n) FL10) with
  | some b => match (FloatKind.f64.decode b).toInt .zero with
    | some v => v.toNat
    | none => 0
  | none => 0
/-- The quotient, as a pattern of bits. -/
def estF (n : Nat) : Nat := ((FloatKind.f64.format.div (FloatKind.f64.nearest n) FL10).getD 0)
def estOk (n : Nat) : Bool := decide (FloatKind.f64.format.div (FloatKind.f64.nearest n) FL10 = some (estF n)) && decide ((FloatKind.f64.decode (estF n)).toInt .zero = some (est n : Int)) && decide (est n ≤ n) && decide (2 ^ n ≤ 10 ^ (est n + 1))
set_option maxRecDepth 100000 in
theorem estAll : (List.range 1400).all estOk = true := by decide +kernel
theorem est_ok {n : Nat} (h : n < 1400) : FloatKind.f64.format.div (FloatKind.f64.nearest n) FL10 = some (estF n) ∧ (FloatKind.f64.decode (estF n)).toInt .zero = some (est n : Int) ∧ est n ≤ n ∧ 2 ^ n ≤ 10 ^ (est n + 1) := by
  have := List.all_eq_true.1 estAll n (List.mem_range.2 h)
  simp only [estOk, Bool.and_eq_true, decide_eq_true_eq] at this
  exact ⟨this.1.1.1, this.1.1.2, this.1.2, this.2⟩
theorem est_conv (n : Nat) (w : World) : (convert 3 273 (.int .i64 n)).run Tryz.prog w = .ok (.float .f64 (FloatKind.f64.nearest n)) w := by
  simp [convert, run_underlying Tryz.underlying3, run_underlying Tryz.underlying273, Conv.intToFloat]
theorem est_div {n : Nat} (h : n < 1400) (w : World) : (binOp .quo 273 (.float .f64 (FloatKind.f64.nearest n)) (.float .f64 FL10)).run Tryz.prog w = .ok (.float .f64 (estF n)) w := by
  simp [binOp, Op.floatArith, (est_ok h).1]
theorem est_int {n : Nat} (h : n < 1400) (w : World) : (convert 273 3 (.float .f64 (estF n))).run Tryz.prog w = .ok (.int .i64 (est n)) w := by
  have h1 := est_ok h
  have hm : IntKind.i64.min = -9223372036854775808 := by decide
  simp [convert, run_underlying Tryz.underlying3, run_underlying Tryz.underlying273, Conv.floatToInt, h1.2.1]
  intro hc
  have h2 := hc (by rw [hm]; omega)
  omega
end Go.Proofs.YtacfhndledcmgaaGreatDoor
