/- Lemmas for the law FnBack: itoa, decimal.init, decimal.round, texts. Conditions: those in each theorem; none besides. -/
import Derived.Test.YtacfhndledcmgaaGreatDoorJ4
import Derived.Defers
import Derived.Deep.RegionLaw
set_option linter.unusedVariables false
set_option linter.unusedSimpArgs false
namespace Go.Proofs.YtacfhndledcmgaaGreatDoor
open Go.RowKit
set_option maxRecDepth 100000 in
set_option maxHeartbeats 1000000 in
theorem maxPow10 (w : World) : Calls Tryz.prog 143 #[.int .u64 10] w fun e w' => e = .returned (.tuple #[.int .u64 BB, .int .i64 19]) ∧ w = w' := by
  go_enter Tryz.func143, Tryz.ntmps143
  go_wp2_with fail
  go_loop [2, 3] (fun p n => ∃ k P : Nat, p = .int .u64 P ∧ n = .int .i64 k ∧ Hid (P = 10 ^ k) ∧ 1 ≤ k ∧ k ≤ 19) (fun _ n => 19 - (intOf n).toNat)
  case atStart => exact ⟨1, 10, rfl, rfl, Lib.hid rfl, by omega, by omega⟩
  case round =>
    obtain ⟨k, P, rfl, rfl, hP, h1, h2⟩ := hrel
    by_cases hk : k = 19
    · have t : decide ((P : Int) ≤ 1844674407370955161) = false := decide_eq_false (by rw [hP.out, hk]; decide)
      obtain rfl : P = BB := by rw [hP.out, hk]; rfl
      subst hk
      go_wp2_with fail
      go_ret2
      exact ⟨rfl, rfl⟩
    · have hle : 10 ^ k ≤ 10 ^ 18 := Nat.pow_le_pow_right (by decide) (by omega)
      have t : decide ((P : Int) ≤ 1844674407370955161) = true := decide_eq_true (by rw [hP.out]; have : (10 ^ k : Nat) ≤ 1844674407370955161 := Nat.le_trans hle (by decide); omega)
      obtain ⟨P2, e2, hP2⟩ : ∃ P2 : Nat, IntKind.u64.wrap ((P : Int) * 10) = (P2 : Int) ∧ P2 = 10 ^ (k + 1) := by
        have h3 : P * 10 ≤ 10 ^ 18 * 10 := Nat.mul_le_mul_right _ (by rw [hP.out]; exact hle)
        have h19 : (10 ^ 18 * 10 : Nat) = 10000000000000000000 := by decide
        refine ⟨P * 10, ?_, ?_⟩
        · rw [IntKind.wrap_u64]; omega
        · rw [hP.out, Nat.pow_succ]
      have HP2 := Lib.hid hP2
      have hk19 : k < 19 := by omega
      clear hP2 hle hP hk
      go_wp2_with fail
      go_round
      case rel => exact ⟨k + 1, P2, rfl, by go_num, HP2, by omega, by omega⟩
      case measure => simp [intOf]; omega
set_option maxHeartbeats 1000000 in
theorem getStack_new (w : World) (hs : 17 ≤ w.heap.size) : Calls Tryz.prog 94 #[] w fun e w' => e = .returned (.pointer (some ⟨w.heap.size, 0, none⟩)) ∧ w'.cell? ⟨w.heap.size, 0, none⟩ = some (.pointer none) ∧ w'.heap.size = w.heap.size + 1 ∧ Chg No w w' := by
  go_enter Tryz.func94, Tryz.ntmps94
  go_wp2_with fail
  go_ret
  refine ⟨rfl, World.cell?_alloc_new _ _ _ _, by simp, (Chg.refl No w).alloc _⟩
set_option maxHeartbeats 1000000 in
theorem divisors_none (stk : Value) (m : Nat) (x y z : Value) (w : World) (hg : Glob w) (hm : m ≤ 8) : Calls Tryz.prog 237 #[stk, .int .i64 m, x, y, z] w fun e w' => e = .returned (.slice none 0 0) ∧ w = w' := by
  have c9 : w.cell? ⟨9, 0, none⟩ = some (.int .i64 8) := hg.cell 9 0 _ rfl
  have i1 : (m : Int) ≤ 8 := by omega
  go_enter Tryz.func237, Tryz.ntmps237
  go_wp2_with fail
  go_ret
  exact ⟨rfl, rfl⟩
set_option maxHeartbeats 1000000 in
theorem free_deferred (b : Nat) (w : World) (u : FrameMode) (h : w.cell? ⟨b, 0, none⟩ = some (.pointer none)) : CallsD Tryz.prog 95 #[.pointer (some ⟨b, 0, none⟩)] u w fun e u' w' => u' = u ∧ e = .returned (.tuple #[]) ∧ w = w' := by
  go_enter_d Tryz.func95, Tryz.ntmps95
  go_wp2_with fail
  go_end0
  exact ⟨rfl, rfl⟩
/-- 'make' of numbers of a kind. -/
theorem wpList_makeN {P : Program} {w : World} {ops : Array Oper} {rest : List Oper} {o : Oper} {a : Act} {Q : Exit → Act → World → Prop} (hgd : o.guard = none) {k : IntKind} {M : Nat} (hk : KM k M) (l c : Operand) (t : TypeId) (hop : o.op = Op.makeSlice t l c)
    (e : TypeId) (i : TypeInfo) (h1 : P.underlying t = some (.slice e)) (h2 : P.info? e = some i) (h3 : i.zero = some (.int k 0)) (h4 : i.size = 1) (h5 : i.bytes ≤ 8)
    (L C : Int) (n m : Nat) (hl : a.eval l = .int .i64 L) (hc : a.eval c = .int .i64 C) (hL : L = (n : Int)) (hC : C = (m : Int)) (hnm : n ≤ m) (hm : m < 35184372088832) (h17 : 17 ≤ w.heap.size)
    (h : ∀ w', Chg No w w' → w'.heap.size = w.heap.size + 1 → NK k M w' w.heap.size 0 n m → Hid (∀ i, i < m → wd w' w.heap.size i = 0) → wpList P ops Q rest (a.put o.dst (.slice (some ⟨w.heap.size, 0, none⟩) n m)) w') : wpList P ops Q (o :: rest) a w := by
  refine wpList_plain hgd fun K hK => ?_
  subst hL; subst hC
  have hb : (i.bytes : Int) * (m : Int) ≤ 281474976710656 := by
    have h1 : i.bytes * m ≤ 8 * m := Nat.mul_le_mul_right _ h5
    have h2 : ((i.bytes * m : Nat) : Int) ≤ ((8 * m : Nat) : Int) := by omega
    rw [Int.natCast_mul] at h2
    omega
  have hrun := run_make (P := P) w t e i (.int k 0) h1 h2 h3 .i64 .i64 n m (by omega) (by omega) hb (by omega)
  simp only [Int.toNat_natCast] at hrun
  rw [h4, Nat.mul_one] at hrun
  have hcell : ∀ i, i < m → (w.alloc (.cells (madeCells (Value.int k 0).cells m) e)).cell? ⟨w.heap.size, i, none⟩ = some (.int k ((0 : Nat) : Int)) := by
    intro i hi
    rw [World.cell?_alloc_new]
    simp [madeCells, Value.cells, hi, Nat.mod_one]
  unfold Oper.wp
  simp [execOp, hop, hl, hc, hrun, Result.andThen]
  refine hK _ _ (h _ (Chg.refl _ _ |>.alloc _) (by simp) ⟨hnm, by unfold maxLen; omega, fun i hi => ?_, Plain.new _ _ _, h17⟩ (fun i hi => wd_of (hcell i hi)))
  rw [Nat.zero_add]; exact ⟨0, hk.pos, hcell i hi⟩
/-- The last n figures of a number, the highest first. -/
def digs (X : Nat) : Nat → List Nat
  | 0 => []
  | n + 1 => digs (X / 10) n ++ [X % 10]
theorem digs_length : ∀ (n X : Nat), (digs X n).length = n
  | 0, _ => rfl
  | n + 1, X => by simp [digs, digs_length n]
theorem digs_get : ∀ (n X j : Nat), j < n → (digs X n).getD j 0 = dg X (n - 1 - j)
  | 0, _, _, h => by omega
  | n + 1, X, j, h => by
    simp only [digs]
    by_cases e : j = n
    · subst e
      have := gd_snoc_eq (digs (X / 10) j) (X % 10)
      rw [digs_length] at this
      rw [this]; simp [dg]
    · rw [gd_snoc_lt (by rw [digs_length]; omega), digs_get n _ j (by omega)]
      unfold dg
      rw [Nat.div_div_eq_div_mul, ← Nat.pow_succ', show n + 1 - 1 - j = n - 1 - j + 1 by omega]
theorem digs_lt : ∀ (n X : Nat), ∀ d ∈ digs X n, d < 10
  | 0, _, _, h => by simp [digs] at h
  | n + 1, X, d, h => by
    simp only [digs] at h
    rcases List.mem_append.1 h with h | h
    · exact digs_lt n _ d h
    · simp at h; omega
theorem Nd_digs : ∀ (n X : Nat), Nd (digs X n) = X % 10 ^ n
  | 0, X => by simp [digs, Nd, Nat.mod_one]
  | n + 1, X => by
    simp only [digs]
    rw [Nd_snoc, Nd_digs n, Nat.pow_succ', Nat.mod_mul]; omega
/-- The text of a number, in memory. -/
structure TxM (w : World) (sb so sc : Nat) (ds : List Nat) : Prop where
  nb : NK .u8 256 w sb so ds.length sc
  dig : ∀ j, j < ds.length → wd w sb (so + j) = 48 + ds.getD j 0
  d10 : ∀ d ∈ ds, d < 10
theorem blen_wb {X m : Nat} (h0 : X ≠ 0) (h : X < WB ^ m) : blen X ≤ 64 * m := blen_le h0 (by rw [← WB_two]; exact h)
theorem and_neg10 : bits BinOp.and .u64 10 (IntKind.u64.wrap (-10)) = 2 := by decide +kernel
set_option maxRecDepth 100000 in
set_option maxHeartbeats 4000000 in
theorem itoa10 (x : Value) (X : Nat) (w : World) (hx : Nt w x X) (hX0 : X ≠ 0) (hXs : X < WB ^ 8) (hg : Glob w) :
    Calls Tryz.prog 178 #[x, .bool false, .int .i64 10] w fun e w' => ∃ sb so sc ds, e = .returned (.slice (some ⟨sb, so, none⟩) ds.length sc) ∧ TxM w' sb so sc ds ∧ Nd ds = X ∧ 0 < ds.length ∧ ds.getD 0 0 ≠ 0 ∧ w.heap.size ≤ sb ∧ Chg No w w' := by
  have hSm : Small X := small_words hXs (by omega)
  obtain ⟨q1, q2, q3⟩ := blen_spec hX0
  have hB8 : blen X ≤ 64 * 8 := blen_wb hX0 hXs
  have hB : blen X ≤ 512 := by omega
  clear hB8
  obtain ⟨B, hBB⟩ : ∃ B, B = blen X := ⟨_, rfl⟩
  obtain ⟨g1, g2, g3, g4⟩ := est_ok (n := B) (by omega)
  have HB := nat_bitLen x X w hx hSm
  rw [← hBB] at HB
  have HB := Lib.hid HB
  obtain ⟨xa, xn, xc, rfl⟩ := hx.sl
  have hxn : 0 < xn := by
    rcases Nat.eq_zero_or_pos xn with e | e
    · subst e
      rcases hx with ⟨_, h⟩ | ⟨b', o', n', c', h, hn, hv, hz⟩
      · exact absurd h hX0
      · cases h; exact absurd hv.symm hX0
    · exact e
  have hxn8 : xn ≤ 8 := by
    rcases hx with ⟨h, _⟩ | ⟨b', o', n', c', h, hn, hv, hz⟩
    · cases h; omega
    · cases h; exact len_le hz (by rw [hv]; exact hXs)
  have t0 : ((xn : Int) == 0) = false := beq_eq_false_iff_ne.2 (by omega)
  have k1 := est_conv B
  have k2 := fc9
  have k3 := fun W => est_div (n := B) (by omega) W
  have k4 := fun W => est_int (n := B) (by omega) W
  have k5 := and_neg10
  obtain ⟨L, hL⟩ : ∃ L, L = est B := ⟨_, rfl⟩
  rw [← hL] at k4
  have hL1 : L ≤ 512 := by omega
  have hXL : X < 10 ^ (L + 1) := by rw [hL]; refine Nat.lt_of_lt_of_le q3 ?_; rw [← hBB]; exact g4
  have HX := Lib.hid hx
  have HXL := Lib.hid hXL
  have HSm := Lib.hid hSm
  obtain ⟨ci, hi1, hi2, hi3, hi4⟩ := info_of info5
  clear hx hXL hSm hXs hBB q1 q2 q3 hB g1 g2 g3 g4 hL
  go_enter_defers Tryz.func178, Tryz.ntmps178
  go_wp2_with (go_at_call 194; refine HB.out.mono ?_; rintro e w1 ⟨rfl, hd⟩; obtain ⟨kd, rfl⟩ := hd)
  go_wp2_with (first
    | (go_at_call 236; refine (math_Log2_10 _).mono ?_; rintro e w1 ⟨rfl, rfl⟩)
    | (refine wpList_makeN rfl km8 (.tmp 44) (.tmp 44) 56 rfl 5 ci Tryz.underlying56 hi1 hi2 hi3 (by rw [hi4]; omega) _ _ (L + 1) (L + 1) rfl rfl (by omega) (by omega) (Nat.le_refl _) (by omega) hg.size ?_; intro w1 hc1 hs1 hn1 hz1))
  have K1 := Lib.hid (((Chg.refl No w).drewN kd).then hc1 (fun _ _ _ f => f))
  have N1 := Lib.hid hn1
  have hs1' : w1.heap.size = w.heap.size + 1 := hs1
  have HS1 := Lib.hid hs1'
  have hsz1 : w.heap.size < w1.heap.size := by omega
  clear hc1 hn1 hz1 hs1 hs1' k1 k2 k3 k4
  have h17 := hg.size
  refine (getStack_new w1 (by omega)).mono ?_
  rintro e w2 ⟨rfl, st, hs2, k2⟩
  have K2 := Lib.hid (K1.out.then k2 (fun _ _ _ f => f))
  have ST := Lib.hid st
  have N2 := Lib.hid (N1.out.chg km8 k2)
  have HS2 := Lib.hid hs2
  have hsz2 : w1.heap.size < w2.heap.size := by omega
  have hg2 := hg.no K2.out
  clear st hs2 k2
  have HSet := Lib.hid (nat_set (.slice none 0 0) (.slice xa xn xc) X w2 (.inl rfl) (HX.out.chg K2.out (fun _ _ _ f => f)) HSm.out (by omega))
  go_wp2_with (first
    | (go_at_call 143; refine (maxPow10 _).mono ?_; rintro e w3 ⟨rfl, rfl⟩)
    | (go_at_call 237; refine (divisors_none _ xn _ _ _ _ hg2 hxn8).mono ?_; rintro e w3 ⟨rfl, rfl⟩))
  refine HSet.out.mono ?_
  rintro e w3 ⟨q, rfl, hr⟩
  have K3 := Lib.hid (K2.out.then hr.chg (fun _ _ _ f => f.elim))
  have N3 := Lib.hid (N2.out.chg km8 hr.chg)
  have ST3 := Lib.hid ((hr.chg.cell w1.heap.size 0 hsz2 (fun f => f)).trans ST.out)
  have hqs : ∀ x p, Fp q x p → w2.heap.size ≤ x := fun x p f => (hr.fp x p f).resolve_left (fun g => g)
  have HQS := Lib.hid hqs
  have hsz3 := hr.chg.size
  have HCv := Lib.hid (convertWords_leaf q X w.heap.size 0 (L + 1) (L + 1) (.pointer (some ⟨w1.heap.size, 0, none⟩)) w3 hr.nt HSm.out N3.out (by omega) HXL.out (fun x p f => by have := hqs x p f; omega) (by omega))
  clear hr hqs
  go_wp2_with fail
  refine HCv.out.mono ?_
  rintro e w4 ⟨rfl, cv, hn4, k4⟩
  have hqs := HQS.out
  have K4 := Lib.hid (K3.out.then k4 (fun x p hx f => by
    rcases f with f | f
    · have := hqs x p f; omega
    · have := f.1; omega))
  have CV := Lib.hid cv
  have N4 := Lib.hid hn4
  have hsz4 := k4.size
  have ST4 := Lib.hid ((k4.cell w1.heap.size 0 (by omega) (fun f => by
    rcases f with f | f
    · have := hqs _ _ f; omega
    · have := f.1; omega)).trans ST3.out)
  clear cv hn4 k4 hqs
  go_wp2_with fail
  go_loopg [7] (L + 1) (fun gk iv wr => ∃ i : Nat, iv = .int .i64 i ∧ w4 = wr ∧ i < L + 1 ∧ Hid (X < 10 ^ (L + 1 - i)) ∧ Hid (L + 1 - i ≤ gk))
  case atStart => exact ⟨0, rfl, rfl, by omega, HXL, Lib.hid (by omega)⟩
  case round =>
    obtain ⟨i, rfl, rfl, hi, hX, hgk⟩ := hrel
    have i1 : (i : Int) < (L : Int) + 1 := by omega
    have hc := (N4.out.isI i (by omega)).cell
    rw [CV.out i (by omega) (by omega), Nat.zero_add] at hc
    obtain ⟨y, hy⟩ : ∃ y, y = 48 + dg X (L + 1 - 1 - i) := ⟨_, rfl⟩
    rw [← hy] at hc
    by_cases hd : dg X (L + 1 - 1 - i) = 0
    · have t1 : ((y : Int) == 48) = true := by rw [hy, hd]; rfl
      have hX2 : X < 10 ^ (L + 1 - (i + 1)) := by
        have h1 := hX.out
        rw [show L + 1 - i = (L + 1 - 1 - i) + 1 by omega, Nat.pow_succ] at h1
        rw [show L + 1 - (i + 1) = L + 1 - 1 - i by omega]
        unfold dg at hd
        have h2 : X / 10 ^ (L + 1 - 1 - i) < 10 := (Nat.div_lt_iff_lt_mul (Nat.pow_pos (by decide))).2 (by rw [Nat.mul_comm]; exact h1)
        have h3 : X / 10 ^ (L + 1 - 1 - i) = 0 := by
          rw [Nat.mod_eq_of_lt h2] at hd; exact hd
        exact (Nat.div_eq_zero_iff_lt (Nat.pow_pos (by decide))).1 h3
      have hi2 : i + 1 < L + 1 := by
        rcases Nat.lt_or_ge (i + 1) (L + 1) with h | h
        · exact h
        · rw [show L + 1 - (i + 1) = 0 by omega] at hX2
          simp at hX2; omega
      have HX2 := Lib.hid hX2
      obtain ⟨g1, rfl⟩ : ∃ g1, gk = g1 + 1 := ⟨gk - 1, by have := hgk.out; omega⟩
      clear hd hy hX2
      go_wp2_with fail
      go_roundg g1
      case measure => omega
      case rel => exact ⟨i + 1, by go_num, rfl, hi2, HX2, Lib.hid (by have := hgk.out; omega)⟩
    · have t1 : ((y : Int) == 48) = false := beq_eq_false_iff_ne.2 (by omega)
      have hcap : ¬ L + 1 = i := by omega
      have HD := Lib.hid hd
      clear hd hy
      go_wp2_with fail
      refine leaves_cons (f := 95) (args := #[.pointer (some ⟨w1.heap.size, 0, none⟩)]) (by simp) (by simp [go_sem]) ?_
      refine (free_deferred _ _ .returning ST4.out).mono ?_
      rintro e u' w'' ⟨rfl, rfl, rfl⟩
      refine ⟨_, results_tmp rfl _ _ _, w.heap.size, i, L + 1 - i, digs X (L + 1 - i), ?_, ⟨?_, fun j hj => ?_, digs_lt _ _⟩, ?_, by rw [digs_length]; omega, ?_, Nat.le_refl _, K4.out⟩
      · rw [digs_length]; rfl
      · rw [digs_length]
        refine ⟨Nat.le_refl _, by unfold maxLen; omega, fun j hj => ?_, N4.out.plain, N4.out.own⟩
        have := N4.out.isI (i + j) (by omega)
        rwa [Nat.zero_add] at this
      · rw [digs_length] at hj
        rw [digs_get _ _ _ hj]
        have := CV.out (i + j) (by omega) (by omega)
        rw [Nat.zero_add] at this
        rw [this]
        congr 2
        omega
      · rw [Nd_digs, Nat.mod_eq_of_lt hX.out]
      · rw [digs_get _ _ _ (by omega)]
        have := HD.out
        rw [show L + 1 - i - 1 - 0 = L + 1 - 1 - i by omega]
        exact this
/-- itoa in base 10 tells the figures of X. -/
def ItoaOk (X : Nat) : Prop := ∀ (x : Value) (w : World), Nt w x X → Glob w → Calls Tryz.prog 178 #[x, .bool false, .int .i64 10] w fun e w' => ∃ sb so sc ds, e = .returned (.slice (some ⟨sb, so, none⟩) ds.length sc) ∧ TxM w' sb so sc ds ∧ Nd ds = X ∧ 0 < ds.length ∧ ds.getD 0 0 ≠ 0 ∧ w.heap.size ≤ sb ∧ Chg No w w'
theorem itoaOk_small {X : Nat} (h0 : X ≠ 0) (h : X < WB ^ 8) : ItoaOk X := fun x w hx hg => itoa10 x X w hx h0 h hg
set_option maxHeartbeats 1000000 in
theorem utoa_ok (x : Value) (X : Nat) (w : World) (hI : ItoaOk X) (hx : Nt w x X) (hg : Glob w) : Calls Tryz.prog 120 #[x, .int .i64 10] w fun e w' => ∃ sb so sc ds, e = .returned (.slice (some ⟨sb, so, none⟩) ds.length sc) ∧ TxM w' sb so sc ds ∧ Nd ds = X ∧ 0 < ds.length ∧ ds.getD 0 0 ≠ 0 ∧ w.heap.size ≤ sb ∧ Chg No w w' := by
  have H := Lib.hid (hI x w hx hg)
  clear hI hx
  go_enter Tryz.func120, Tryz.ntmps120
  go_wp2_with fail
  refine H.out.mono ?_
  rintro e w1 ⟨sb, so, sc, ds, rfl, h1, h2, h3, h4, h5, h6⟩
  have R := Lib.hid (And.intro h1 (And.intro h2 (And.intro h3 (And.intro h4 (And.intro h5 h6)))))
  clear h1 h2 h3 h4 h5 h6
  go_wp2_with fail
  go_ret
  exact ⟨sb, so, sc, ds, rfl, R.out⟩
theorem Nd_ge {ds : List Nat} (h0 : 0 < ds.length) (hh : ds.getD 0 0 ≠ 0) : 10 ^ (ds.length - 1) ≤ Nd ds := by
  have key : ∀ k, 10 ^ k ≤ Dp ds (k + 1) := by
    intro k
    induction k with
    | zero => rw [Dp_succ, Dp_zero]; show 1 ≤ 10 * 0 + ds.getD 0 0; omega
    | succ k ih => rw [Dp_succ, Nat.pow_succ]; omega
  have := key (ds.length - 1)
  rw [show ds.length - 1 + 1 = ds.length by omega, Dp_len] at this
  exact this
theorem App.refl {w : World} {z : Value} {l : List Nat} (h : Ls .u8 256 w z l) : App .u8 256 w w z z l := ⟨h, fun _ _ f => .inl f, Chg.refl _ _⟩
theorem App.trans {w w1 w2 : World} {z r r2 : Value} {l l2 : List Nat} (h : App .u8 256 w w1 z r l) (k : App .u8 256 w1 w2 r r2 l2) : App .u8 256 w w2 z r2 l2 := by
  have hs := h.chg.size
  refine ⟨k.ls, fun b o f => ?_, h.chg.then k.chg (fun x o hx f => ?_)⟩
  · rcases k.fp b o f with f | f
    · exact h.fp b o f
    · exact .inr (by omega)
  · rcases h.fp x o f with f | f
    · exact f
    · omega
theorem App.no {w w1 w2 : World} {z r : Value} {l : List Nat} (h : App .u8 256 w w1 z r l) (k : Chg No w1 w2) : App .u8 256 w w2 z r l :=
  ⟨h.ls.chg km8 k (fun _ _ _ f => f), h.fp, h.chg.then k (fun _ _ _ f => f.elim)⟩
/-- 'append(buf, c)'. -/
theorem wpList_app1 {w0 W : World} {ops : Array Oper} {rest : List Oper} {o : Oper} {a : Act} {Q : Exit → Act → World → Prop} {z0 z : Value} {l : List Nat} {c : Nat} (hgd : o.guard = none) (zo xo : Operand)
    (ho : o.op = .call { callee := .builtin .append, args := #[zo, xo], argTypes := #[56, 56] }) (hze : a.eval zo = z) (hxe : a.eval xo = .slice (some ⟨W.heap.size, 0, none⟩) 1 1) (hA : App .u8 256 w0 W z0 z l) (hc : c < 256) (hbig : l.length < 4000000000) (h17 : 17 ≤ w0.heap.size)
    (h : ∀ r w', App .u8 256 w0 w' z0 r (l ++ [c]) → wpList Tryz.prog ops Q rest (a.put o.dst r) w') : wpList Tryz.prog ops Q (o :: rest) a (W.alloc (.cells #[.int .u8 (c : Nat)] 5)) := by
  obtain ⟨ci, hi1, hi2, hi3, hi4⟩ := info_of info5
  have hA2 := hA.no ((Chg.refl No W).alloc (.cells #[.int .u8 (c : Nat)] 5))
  exact wpList_append_num hgd km8 zo xo 56 56 5 ho ci Tryz.underlying56 hi1 hi2 hi3 (by rw [hi4]; omega) z l hze hA2.ls _ hxe [c] (Src.one Tryz.underlying56 _ _ _ _) (by simpa using hc) (by simp) (by simp; omega) (Nat.le_trans h17 hA2.chg.size)
    (fun r w' happ => h r w' (hA2.trans happ))
/-- 'append(buf, s...)' of a part of bytes in memory. -/
theorem wpList_appS {w0 W : World} {ops : Array Oper} {rest : List Oper} {o : Oper} {a : Act} {Q : Exit → Act → World → Prop} {z0 z : Value} {l vs : List Nat} {mb mo mc n : Nat} (hgd : o.guard = none) (zo xo : Operand)
    (ho : o.op = .call { callee := .builtin .append, args := #[zo, xo], argTypes := #[56, 56] }) (hze : a.eval zo = z) (hxe : a.eval xo = .slice (some ⟨mb, mo, none⟩) n mc) (hn : n = vs.length) (hA : App .u8 256 w0 W z0 z l) (hv : ∀ v ∈ vs, v < 256) (hcell : ∀ j (hj : j < vs.length), W.cell? ⟨mb, mo + j, none⟩ = some (.int .u8 (vs[j] : Nat)))
    (h0 : 0 < vs.length) (hbig : l.length + vs.length < 4000000000) (h17 : 17 ≤ w0.heap.size)
    (h : ∀ r w', App .u8 256 w0 w' z0 r (l ++ vs) → wpList Tryz.prog ops Q rest (a.put o.dst r) w') : wpList Tryz.prog ops Q (o :: rest) a W := by
  obtain ⟨ci, hi1, hi2, hi3, hi4⟩ := info_of info5
  subst hn
  refine wpList_append_num hgd km8 zo xo 56 56 5 ho ci Tryz.underlying56 hi1 hi2 hi3 (by rw [hi4]; omega) z l hze hA.ls _ hxe vs ?_ hv h0 (by omega) (Nat.le_trans h17 hA.chg.size) (fun r w' happ => h r w' (hA.trans happ))
  refine Src.ofSlice _ Tryz.underlying56 _ _ mc _ (by simp) (fun j u hj => ?_) (fun u hu => by obtain ⟨v, _, rfl⟩ := List.mem_map.1 hu; rfl)
  have hjl : j < vs.length := by
    rcases Nat.lt_or_ge j vs.length with h | h
    · exact h
    · rw [List.getElem?_eq_none (by simpa using h)] at hj; cases hj
  have e1 : (⟨mb, mo, none⟩ : Addr).add j = ⟨mb, mo + j, none⟩ := by unfold Addr.add; split <;> simp_all
  rw [e1, hcell j hjl]
  simpa [hjl] using hj
/-- The sign's text. -/
def sgn (n : Bool) : List Nat := if n then [45] else []
theorem App.step {S : Nat → Nat → Prop} {w w1 w2 : World} {z r : Value} {l : List Nat} (h : App .u8 256 w w1 z r l) (k : Chg S w1 w2) (h1 : ∀ y o, S y o → ¬ Fp r y o) (h2 : ∀ y o, y < w.heap.size → ¬ S y o) : App .u8 256 w w2 z r l :=
  ⟨h.ls.chg km8 k (fun b o f g => h1 _ _ g f), h.fp, h.chg.then k (fun x o hx f => absurd f (h2 _ _ hx))⟩
end Go.Proofs.YtacfhndledcmgaaGreatDoor
