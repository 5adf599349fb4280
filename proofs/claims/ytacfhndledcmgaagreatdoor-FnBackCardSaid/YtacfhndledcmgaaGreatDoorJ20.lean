/- Lemmas for the law FnBack: spec.Words, spec.HasWords, spec.IsReal. Conditions: those in each theorem; none besides. -/
import Derived.Test.YtacfhndledcmgaaGreatDoorJ6
import Derived.Test.YtacfhndledcmgaaGreatDoorJ11
import Derived.Deep.RegionHeld3
import Derived.Test.YtacfhndledcmgaaGreatDoorJ19
import Derived.Test.YtacfhndledcmgaaGreatDoorM127
set_option linter.unusedVariables false
set_option linter.unusedSimpArgs false
namespace Go.Proofs.YtacfhndledcmgaaGreatDoor
open Go.RowKit
theorem Vl_snoc (u : List Nat) (x : Nat) : Vl (u ++ [x]) = Vl u + x * WB ^ u.length := by
  induction u with
  | nil => rw [List.nil_append, Vl_cons]; simp [Vl, V]
  | cons y u ih =>
    rw [List.cons_append, Vl_cons, ih, Vl_cons, List.length_cons, Nat.pow_succ, Nat.mul_add, Nat.mul_left_comm, Nat.mul_comm WB (WB ^ u.length)]
    omega
/-- Digits of 16 bits packed into words, up to a digit. -/
def Pk (l u : List Nat) (i : Nat) : Prop := i ≤ l.length ∧ u.length = (i + 3) / 4 ∧ (∀ x ∈ u, x < WB) ∧ Vl u = Vb (l.take i)
theorem wb_pow4 (q : Nat) : WB ^ q = 65536 ^ (4 * q) := by rw [Nat.pow_mul]; rfl
theorem Vb_take_lt {l : List Nat} (h : ∀ d ∈ l, d < 65536) (i : Nat) : Vb (l.take i) < 65536 ^ i := by
  have h1 := Vb_lt (l := l.take i) (fun d hd => h d (List.mem_of_mem_take hd))
  exact Nat.lt_of_lt_of_le h1 (Nat.pow_le_pow_right (by decide) (by simp; omega))
theorem Pk.zero (l : List Nat) : Pk l [] 0 := ⟨Nat.zero_le _, rfl, by simp, by simp [Vl, V, Vb]⟩
theorem Pk.new {l u : List Nat} {i : Nat} (h : Pk l u i) (hi : i < l.length) (h4 : i % 4 = 0) (hl : ∀ d ∈ l, d < 65536) : Pk l (u ++ [l.getD i 0]) (i + 1) := by
  obtain ⟨h1, h2, h3, h4'⟩ := h
  have hd : l.getD i 0 < 65536 := dig_lt hl i
  have hlen : u.length = i / 4 := by omega
  refine ⟨hi, by rw [List.length_append, List.length_singleton]; omega, fun x hx => ?_, ?_⟩
  · rcases List.mem_append.1 hx with hx | hx
    · exact h3 x hx
    · rw [List.mem_singleton.1 hx]; exact Nat.lt_of_lt_of_le hd (by decide)
  · rw [Vl_snoc, Vb_take_succ, h4', hlen, wb_pow4, show 4 * (i / 4) = i by omega]
theorem split_last {u : List Nat} {q : Nat} (h : u.length = q + 1) : u = u.take q ++ [u.getD q 0] := by
  have h1 : u.take q ++ u.drop q = u := List.take_append_drop q u
  have h2 : u.drop q = [u.getD q 0] := by
    rw [List.drop_eq_getElem_cons (by omega), List.drop_of_length_le (by omega)]
    simp [List.getD, show q < u.length by omega]
  rw [← h2, h1]
theorem Pk.add {l u : List Nat} {i : Nat} (h : Pk l u i) (hi : i < l.length) (h4 : i % 4 ≠ 0) (hl : ∀ d ∈ l, d < 65536) :
    u.length = i / 4 + 1 ∧ u.getD (i / 4) 0 < 65536 ^ (i % 4) ∧ Pk l (u.set (i / 4) (u.getD (i / 4) 0 + l.getD i 0 * 65536 ^ (i % 4))) (i + 1) := by
  obtain ⟨h1, h2, h3, h4'⟩ := h
  have hd : l.getD i 0 < 65536 := dig_lt hl i
  have hlen : u.length = i / 4 + 1 := by omega
  obtain ⟨q, hq⟩ : ∃ q, q = i / 4 := ⟨_, rfl⟩
  obtain ⟨r, hr⟩ : ∃ r, r = i % 4 := ⟨_, rfl⟩
  rw [← hq, ← hr]
  rw [← hq] at hlen
  have hiq : i = 4 * q + r := by omega
  have hs := split_last hlen
  obtain ⟨a, ha⟩ : ∃ a, a = u.getD q 0 := ⟨_, rfl⟩
  obtain ⟨t, ht⟩ : ∃ t, t = u.take q := ⟨_, rfl⟩
  rw [← ha, ← ht] at hs
  have htl : t.length = q := by rw [ht, List.length_take]; omega
  have hV : Vl u = Vl t + a * 65536 ^ (4 * q) := by rw [hs, Vl_snoc, htl, wb_pow4]
  have hp : 0 < 65536 ^ (4 * q) := Nat.pow_pos (by decide)
  have hlt := Vb_take_lt hl i
  rw [← h4', hV, hiq, Nat.pow_add] at hlt
  have hlast : a < 65536 ^ r := by
    have h5 : a * 65536 ^ (4 * q) < 65536 ^ r * 65536 ^ (4 * q) := by rw [Nat.mul_comm (65536 ^ r)]; omega
    exact Nat.lt_of_mul_lt_mul_right h5
  rw [← ha]
  refine ⟨hlen, hlast, hi, by rw [List.length_set]; omega, fun x hx => ?_, ?_⟩
  · rcases List.mem_or_eq_of_mem_set hx with hx | rfl
    · exact h3 x hx
    · have h6 : (a + l.getD i 0 * 65536 ^ r) < 65536 ^ (r + 1) := by
        rw [Nat.pow_succ]
        have : l.getD i 0 * 65536 ^ r ≤ 65535 * 65536 ^ r := Nat.mul_le_mul_right _ (by omega)
        omega
      have h7 : 65536 ^ (r + 1) ≤ 65536 ^ 4 := Nat.pow_le_pow_right (by decide) (by omega)
      exact Nat.lt_of_lt_of_le h6 h7
  · have hset : u.set q (a + l.getD i 0 * 65536 ^ r) = t ++ [a + l.getD i 0 * 65536 ^ r] := by
      conv => lhs; rw [hs]
      rw [List.set_append_right _ _ (by omega), htl, Nat.sub_self]; rfl
    rw [hset, Vl_snoc, htl, wb_pow4, Vb_take_succ, ← h4', hV, Nat.add_mul, Nat.mul_assoc, ← Nat.pow_add, show r + 4 * q = i by omega]
    omega
/-- Words being packed, in a block that is new. -/
def PkH (w wr : World) (v : Value) (u : List Nat) : Prop := Ls .u64 WB wr v u ∧ (∀ b o, Fp v b o → w.heap.size ≤ b) ∧ Chg No w wr
def PkW (l : List Nat) (w wr : World) (v : Value) (i : Nat) : Prop := ∃ u, PkH w wr v u ∧ Pk l u i
/-- A place is there for the digit i. -/
def PkM (l : List Nat) (w wr : World) (v : Value) (i a : Nat) : Prop := ∃ u, PkH w wr v u ∧ u.length = i / 4 + 1 ∧ u.getD (i / 4) 0 = a ∧ a < 65536 ^ (i % 4) ∧ Pk l (u.set (i / 4) (a + l.getD i 0 * 65536 ^ (i % 4))) (i + 1)
theorem PkW.start (l : List Nat) (w : World) (h17 : 17 ≤ w.heap.size) : PkW l w (w.alloc (.cells #[] 41)) (.slice (some ⟨w.heap.size, 0, none⟩) 0 0) 0 :=
  ⟨[], ⟨.inr ⟨w.heap.size, 0, 0, rfl, ⟨Nat.le_refl _, by unfold maxLen; omega, fun i hi => by omega, Plain.new _ _ _, h17⟩, fun j hj => by simp at hj⟩, fun b o f => by obtain ⟨rfl, h1, h2⟩ := f; omega, (Chg.refl No w).alloc _⟩, Pk.zero l⟩
theorem PkM.old {l : List Nat} {w wr : World} {v : Value} {i : Nat} (h : PkW l w wr v i) (hi : i < l.length) (h4 : i % 4 ≠ 0) (hl : ∀ d ∈ l, d < 65536) : ∃ a, PkM l w wr v i a := by
  obtain ⟨u, h1, h2⟩ := h
  obtain ⟨g1, g2, g3⟩ := h2.add hi h4 hl
  exact ⟨_, u, h1, g1, rfl, g2, g3⟩
theorem PkM.new {l u : List Nat} {w W wr : World} {v r : Value} {i : Nat} (h : PkH w W v u) (hp : Pk l u i) (hi : i < l.length) (h4 : i % 4 = 0) (hl : ∀ d ∈ l, d < 65536) (ha : App .u64 WB W wr v r (u ++ [0])) : PkM l w wr r i 0 := by
  obtain ⟨h1, h2, h3⟩ := h
  have hlen : u.length = i / 4 := by have := hp.2.1; omega
  refine ⟨u ++ [0], ⟨ha.ls, fun b o f => ?_, h3.then ha.chg (fun b o hb f => absurd (h2 b o f) (by omega))⟩, by simp [hlen], by simp [hlen], by rw [h4]; decide, ?_⟩
  · rcases ha.fp b o f with f | f
    · exact h2 b o f
    · exact Nat.le_trans h3.size f
  · rw [h4, Nat.pow_zero, Nat.mul_one, Nat.zero_add, ← hlen, List.set_append_right _ _ (Nat.le_refl _), Nat.sub_self]
    exact hp.new hi h4 hl
theorem PkM.store {l : List Nat} {w wr : World} {v : Value} {i a : Nat} (h : PkM l w wr v i a) : ∃ b o n c, v = .slice (some ⟨b, o, none⟩) n c ∧ i / 4 < n ∧ n ≤ c ∧ wr.cell? ⟨b, o + i / 4, none⟩ = some (.int .u64 a) ∧ wr.frozen? ⟨b, o + i / 4, none⟩ = false ∧
    PkW l w (wr.setCell ⟨b, o + i / 4, none⟩ (.int .u64 (a + l.getD i 0 * 65536 ^ (i % 4) : Nat))) v (i + 1) := by
  obtain ⟨u, ⟨h1, h2, h3⟩, h4, h5, h6, h7⟩ := h
  rcases h1 with ⟨_, rfl⟩ | ⟨b, o, c, rfl, hn, hv⟩
  · simp at h4
  obtain ⟨q, hq⟩ : ∃ q, q = i / 4 := ⟨_, rfl⟩
  rw [← hq] at h4 h5 h7 ⊢
  obtain ⟨y, hy⟩ : ∃ y, y = a + l.getD i 0 * 65536 ^ (i % 4) := ⟨_, rfl⟩
  rw [← hy] at h7 ⊢
  have hle := hn.le
  have hyW : y < WB := h7.2.2.1 y (List.mem_set (l := u) (i := q) (by omega) y)
  have hW : IsW wr b (o + q) := hn.isI q (by omega)
  have hcell : wr.cell? ⟨b, o + q, none⟩ = some (.int .u64 a) := by
    obtain ⟨x, hx1, hx2⟩ := hW
    have h8 := hv q (by omega)
    rw [wd_of hx2] at h8
    rw [hx2, h8, ← h5]
    simp [List.getD, show q < u.length by omega]
  refine ⟨b, o, _, c, rfl, by omega, hle, hcell, hn.plain.free _, u.set q y, ⟨.inr ⟨b, o, c, by rw [List.length_set], ?_, fun j hj => ?_⟩, h2, h3.setW hW hyW (fun hb => absurd (h2 b (o + q) (show Rng b o c b (o + q) from ⟨rfl, by omega, by omega⟩)) (by omega))⟩, h7⟩
  · rw [List.length_set]
    exact hn.chg km64 ((Chg.refl (fun x p => x = b ∧ p = o + q) wr).setW hW hyW (fun _ => ⟨rfl, rfl⟩))
  · rw [List.length_set] at hj
    by_cases e : j = q
    · subst e
      rw [wd_setCell_same hcell]; simp
    · rw [wd_setCell_ne (.inr (by omega)), hv j hj, List.getElem_set_ne (by omega)]
theorem PkW.no {l : List Nat} {w W W' : World} {v : Value} {i : Nat} (h : PkW l w W v i) (k : Chg No W W') : PkW l w W' v i := by
  obtain ⟨u, ⟨h1, h2, h3⟩, h4⟩ := h
  exact ⟨u, ⟨h1.chg km64 k (fun _ _ _ f => f), h2, h3.then k (fun _ _ _ f => f)⟩, h4⟩
theorem info41 : (Tryz.prog.info? 41).map (fun i => (i.zero, i.size, i.bytes)) = some (some (.int .u64 0), 1, 8) := by kernel_rfl
theorem len_of_lt {l : List Nat} {X n : Nat} (hv : Vb l = X) (ht : Top l) (hX : X < 65536 ^ n) (hn : n ≤ 1000) : l.length ≤ 1000 := by
  rcases Nat.lt_or_ge n l.length with h | h
  · exfalso
    have h1 := Vb_ge ht (by omega)
    have h2 : 65536 ^ n ≤ 65536 ^ (l.length - 1) := Nat.pow_le_pow_right (by decide) (by omega)
    omega
  · omega
theorem or_add {a d r : Nat} (ha : a < 65536 ^ r) (hd : d < 65536) (hr : r ≤ 3) : bits BinOp.or .u64 (a : Int) ((d * 65536 ^ r : Nat) : Int) = ((a + d * 65536 ^ r : Nat) : Int) := by
  have e : 65536 ^ r = 2 ^ (16 * r) := by rw [Nat.pow_mul]
  have hw : WB = 18446744073709551616 := rfl
  have h2 : 65536 ^ (r + 1) ≤ WB := (Nat.pow_le_pow_right (by decide) (by omega) : 65536 ^ (r + 1) ≤ 65536 ^ 4)
  have h3 : d * 65536 ^ r ≤ 65535 * 65536 ^ r := Nat.mul_le_mul_right _ (by omega)
  have h4 : 0 < 65536 ^ r := Nat.pow_pos (by decide)
  rw [Nat.pow_succ] at h2
  rw [bits_or_u64_nat _ _ (by omega) (by omega)]
  congr 1
  rw [e] at ha ⊢
  rw [Nat.or_comm, Nat.mul_comm d, ← Nat.two_pow_add_eq_or_of_lt ha, Nat.add_comm]
/-- What Words says. -/
def WdOut (X : Nat) (w : World) (e : Ending) (w' : World) : Prop := ∃ v u, e = .returned v ∧ Ls .u64 WB w' v u ∧ Vl u = X ∧ (u ≠ [] → WB ^ (u.length - 1) ≤ X) ∧ (∀ x ∈ u, x < WB) ∧ Chg No w w'
set_option maxRecDepth 100000 in
set_option maxHeartbeats 2000000 in
theorem spec_Words (x : Value) (X n : Nat) (w : World) (hx : Sn w x X) (hX : X < 65536 ^ n) (hn : n ≤ 1000) (h17 : 17 ≤ w.heap.size) :
    Calls Tryz.prog 111 #[x] w (WdOut X w) := by
  obtain ⟨l, A, c, rfl, hc, hr, hv, hd, ht⟩ := hx.view
  obtain ⟨ci, hi1, hi2, hi3, hi4⟩ := info_of info41
  have hm1000 : l.length ≤ 1000 := len_of_lt hv ht hX hn
  have S0 := Lib.hid (PkW.start l w h17)
  obtain ⟨m, hm⟩ : ∃ m, m = l.length := ⟨_, rfl⟩
  rw [← hm] at hc hm1000 ⊢
  have HM := Lib.hid hm
  have HR := Lib.hid hr
  have HV := Lib.hid (And.intro hv (And.intro hd ht))
  clear hx hX hm hr hv hd ht
  go_enter Tryz.func111, Tryz.ntmps111
  go_wp2_with fail
  go_loopw [3, 9] (fun ov iv wr => ∃ i : Nat, iv = .int .i64 i ∧ i ≤ m ∧ Hid (PkW l w wr ov i)) (fun _ iv _ => m - (intOf iv).toNat)
  case atStart => exact ⟨0, rfl, by omega, S0⟩
  case round =>
    obtain ⟨i, rfl, hi, hP⟩ := hrel
    by_cases him : i < m
    · have hd := HV.out.2.1
      obtain ⟨ad, rfl, c1⟩ := HR.out i (by have := HM.out; omega)
      have hil : i < l.length := by have := HM.out; omega
      obtain ⟨d, hdd⟩ : ∃ d, d = l.getD i 0 := ⟨_, rfl⟩
      have hd16 : d < 65536 := by rw [hdd]; exact dig_lt hd i
      rw [← hdd] at c1
      have c1 : wr.cell? (ad.add i) = some (.int .i64 d) := by
        obtain ⟨u, h1, h2⟩ := hP.out
        exact h1.2.2.cellA c1
      have i1 : (i : Int) < m := by omega
      have i0 : (0 : Int) ≤ i := by omega
      have t0 : (i : Int).tmod 4 = (i % 4 : Nat) := by rw [Int.tmod_eq_emod_of_nonneg i0]; omega
      have HD := Lib.hid (And.intro hdd (And.intro hd hil))
      clear hdd hd hil
      by_cases h4 : i % 4 = 0
      · obtain ⟨u, hu, hp⟩ := hP.out
        have HU := Lib.hid (And.intro hu hp)
        have L := Lib.hid hu.1
        have hul : u.length ≤ 1000 := by have := hp.2.1; omega
        have hsz : 17 ≤ wr.heap.size := Nat.le_trans h17 hu.2.2.size
        clear hu hp
        go_wp2_with (at_builtin; refine wpList_append_num rfl km64 (.tmp 17) (.tmp 18) 22 22 41 rfl ci Tryz.underlying22 hi1 hi2 hi3 (by rw [hi4]; omega) _ u rfl (Ls.alloc km64 L.out _) _ rfl [0] (Src.one Tryz.underlying22 _ _ _ _) (by simp; exact WB_pos) (by simp) (by simp; omega) (by simp; omega) ?_; intro r w2 happ; have HA := Lib.hid happ; clear happ)
        have HMM := Lib.hid (PkM.new ⟨Ls.alloc km64 L.out _, HU.out.1.2.1, HU.out.1.2.2.alloc _⟩ HU.out.2 HD.out.2.2 h4 HD.out.2.1 HA.out)
        obtain ⟨b, o, k, c', rfl, g1, g2, g3, g4, g5⟩ := HMM.out.store
        obtain ⟨q, hq⟩ : ∃ q, q = i / 4 := ⟨_, rfl⟩
        have e1 : (i : Int) / 4 = (q : Int) := by omega
        have e2 : (i : Int).tdiv 4 = (q : Int) := by rw [Int.tdiv_eq_ediv_of_nonneg i0]; exact e1
        rw [← hq] at g1 g3 g4 g5
        have q1 : (q : Int) < k := by omega
        have q0 : (0 : Int) ≤ q := by omega
        have wq : IntKind.i64.wrap (q : Int) = (q : Int) := by rw [IntKind.wrap_i64]; omega
        have wd : IntKind.u64.wrap (d : Int) = (d : Int) := by rw [wrap_cast, Nat.mod_eq_of_lt (Nat.lt_of_lt_of_le hd16 (by decide))]
        have g3d : w2.drew.cell? ⟨b, o + q, none⟩ = some (.int .u64 0) := g3
        have HG := Lib.hid g5
        have e4 : (i : Int).tmod 4 = 0 := by rw [t0]; omega
        have w16 : IntKind.i64.wrap 0 = 0 := by decide
        have HOR : Hid (bits BinOp.or .u64 0 (d : Int) = ((0 + l.getD i 0 * 65536 ^ (i % 4) : Nat) : Int)) := Lib.hid (by
            have h := or_add (a := 0) (d := d) (r := 0) (by decide) hd16 (by decide)
            rw [Nat.pow_zero, Nat.mul_one] at h
            rw [h4, ← HD.out.1, Nat.pow_zero, Nat.mul_one, ← h]; rfl)
        clear g5 g3 hq t0
        go_wp2_with fail
        go_region_with (fail)
        go_wp2_with fail
        go_roundw
        case rel => exact ⟨i + 1, by go_num, by omega, Lib.hid (by have h := HG.out; rw [← HOR.out] at h; exact h.no (Chg.refl No _).drew)⟩
        case measure => simp [intOf]; omega
      · obtain ⟨a, ha⟩ := PkM.old hP.out HD.out.2.2 h4 HD.out.2.1
        obtain ⟨b, o, k, c', rfl, g1, g2, g3, g4, g5⟩ := ha.store
        have t4b : ((i : Int) % 4 == 0) = false := beq_eq_false_iff_ne.2 (by omega)
        obtain ⟨q, hq⟩ : ∃ q, q = i / 4 := ⟨_, rfl⟩
        have e1 : (i : Int) / 4 = (q : Int) := by omega
        have e2 : (i : Int).tdiv 4 = (q : Int) := by rw [Int.tdiv_eq_ediv_of_nonneg i0]; exact e1
        rw [← hq] at g1 g3 g4 g5
        have q1 : (q : Int) < k := by omega
        have q0 : (0 : Int) ≤ q := by omega
        have HQ := Lib.hid hq
        have wq : IntKind.i64.wrap (q : Int) = (q : Int) := by rw [IntKind.wrap_i64]; omega
        have wd : IntKind.u64.wrap (d : Int) = (d : Int) := by rw [wrap_cast, Nat.mod_eq_of_lt (Nat.lt_of_lt_of_le hd16 (by decide))]
        clear hq
        have h5 : i % 4 = 1 ∨ i % 4 = 2 ∨ i % 4 = 3 := by omega
        have HD3 : Hid (a < 65536 ^ (i % 4)) := Lib.hid (by obtain ⟨u, -, -, -, h, -⟩ := ha; exact h)
        have g3d : wr.drew.cell? ⟨b, o + q, none⟩ = some (.int .u64 a) := g3
        have HG := Lib.hid g5
        clear g5 g3 ha
        rcases h5 with h5 | h5 | h5
        · have e3 : (i : Int) % 4 = 1 := by omega
          have e4 : (i : Int).tmod 4 = 1 := by rw [t0]; omega
          clear t0
          have w16 : IntKind.i64.wrap 16 = 16 := by decide
          have ww : IntKind.u64.wrap ((d : Int) * 65536) = (d : Int) * 65536 := by rw [IntKind.wrap_u64]; omega
          have HOR : Hid (bits BinOp.or .u64 (a : Int) ((d : Int) * 65536) = ((a + l.getD i 0 * 65536 ^ (i % 4) : Nat) : Int)) := Lib.hid (by
            have h := or_add (a := a) (d := d) (r := 1) (by rw [← h5]; exact HD3.out) hd16 (by decide)
            rw [h5, ← HD.out.1, ← h]; rfl)
          go_wp2_with fail
          go_region_with (fail)
          go_wp2_with fail
          go_roundw
          case rel => exact ⟨i + 1, by go_num, by omega, Lib.hid (by have h := HG.out; rw [← HOR.out] at h; exact h.no (Chg.refl No _).drew)⟩
          case measure => simp [intOf]; omega
        · have e3 : (i : Int) % 4 = 2 := by omega
          have e4 : (i : Int).tmod 4 = 2 := by rw [t0]; omega
          clear t0
          have w16 : IntKind.i64.wrap 32 = 32 := by decide
          have ww : IntKind.u64.wrap ((d : Int) * 4294967296) = (d : Int) * 4294967296 := by rw [IntKind.wrap_u64]; omega
          have HOR : Hid (bits BinOp.or .u64 (a : Int) ((d : Int) * 4294967296) = ((a + l.getD i 0 * 65536 ^ (i % 4) : Nat) : Int)) := Lib.hid (by
            have h := or_add (a := a) (d := d) (r := 2) (by rw [← h5]; exact HD3.out) hd16 (by decide)
            rw [h5, ← HD.out.1, ← h]; rfl)
          go_wp2_with fail
          go_region_with (fail)
          go_wp2_with fail
          go_roundw
          case rel => exact ⟨i + 1, by go_num, by omega, Lib.hid (by have h := HG.out; rw [← HOR.out] at h; exact h.no (Chg.refl No _).drew)⟩
          case measure => simp [intOf]; omega
        · have e3 : (i : Int) % 4 = 3 := by omega
          have e4 : (i : Int).tmod 4 = 3 := by rw [t0]; omega
          clear t0
          have w16 : IntKind.i64.wrap 48 = 48 := by decide
          have ww : IntKind.u64.wrap ((d : Int) * 281474976710656) = (d : Int) * 281474976710656 := by rw [IntKind.wrap_u64]; omega
          have HOR : Hid (bits BinOp.or .u64 (a : Int) ((d : Int) * 281474976710656) = ((a + l.getD i 0 * 65536 ^ (i % 4) : Nat) : Int)) := Lib.hid (by
            have h := or_add (a := a) (d := d) (r := 3) (by rw [← h5]; exact HD3.out) hd16 (by decide)
            rw [h5, ← HD.out.1, ← h]; rfl)
          go_wp2_with fail
          go_region_with (fail)
          go_wp2_with fail
          go_roundw
          case rel => exact ⟨i + 1, by go_num, by omega, Lib.hid (by have h := HG.out; rw [← HOR.out] at h; exact h.no (Chg.refl No _).drew)⟩
          case measure => simp [intOf]; omega
    · obtain rfl : i = m := by omega
      go_wp2_with fail
      go_ret
      obtain ⟨u, ⟨h1, h2, h3⟩, h4⟩ := hP.out
      have hl := HM.out
      have hv4 : Vl u = X := by rw [h4.2.2.2, List.take_of_length_le (by omega)]; exact HV.out.1
      refine ⟨_, u, rfl, h1, hv4, fun hu => ?_, h4.2.2.1, h3⟩
      have hlen : u.length = (i + 3) / 4 := h4.2.1
      have hpos : 0 < u.length := List.length_pos_iff.2 hu
      have h8 := Vb_ge HV.out.2.2 (by omega)
      rw [HV.out.1] at h8
      rw [wb_pow4]
      exact Nat.le_trans (Nat.pow_le_pow_right (by decide) (by omega)) h8
theorem Vl_lt {l : List Nat} (h : ∀ x ∈ l, x < WB) : Vl l < WB ^ l.length := by
  unfold Vl
  exact V_lt _ fun i hi => by
    have e : l.getD i 0 = l[i] := by simp [List.getD, hi]
    rw [e]; exact h _ (List.getElem_mem _)
/-- Words without a zero on top. -/
def CanW (l : List Nat) : Prop := (l ≠ [] → WB ^ (l.length - 1) ≤ Vl l) ∧ ∀ x ∈ l, x < WB
theorem CanW.len {l m : List Nat} (hl : CanW l) (hm : CanW m) (h : Vl l = Vl m) : l.length ≤ m.length := by
  rcases Nat.lt_or_ge m.length l.length with h1 | h1
  · exfalso
    have h2 := hl.1 (by intro e; rw [e] at h1; simp at h1)
    have h3 := Vl_lt hm.2
    have h4 : WB ^ m.length ≤ WB ^ (l.length - 1) := Nat.pow_le_pow_right WB_pos (by omega)
    omega
  · exact h1
theorem words_same : ∀ {l m : List Nat}, (∀ x ∈ l, x < WB) → (∀ x ∈ m, x < WB) → l.length = m.length → Vl l = Vl m → l = m
  | [], [], _, _, _, _ => rfl
  | [], _ :: _, _, _, h, _ => by simp at h
  | _ :: _, [], _, _, h, _ => by simp at h
  | x :: l, y :: m, h1, h2, h, e => by
    rw [Vl_cons, Vl_cons] at e
    have hx := h1 x (by simp)
    have hy := h2 y (by simp)
    have e1 : x = y := by
      have := congrArg (· % WB) e
      simpa [Nat.add_mul_mod_self_left, Nat.mod_eq_of_lt hx, Nat.mod_eq_of_lt hy] using this
    subst e1
    have e2 : Vl l = Vl m := Nat.eq_of_mul_eq_mul_left WB_pos (by omega)
    rw [words_same (fun z hz => h1 z (by simp [hz])) (fun z hz => h2 z (by simp [hz])) (by simpa using h) e2]
theorem CanW.eq {l m : List Nat} (hl : CanW l) (hm : CanW m) (h : Vl l = Vl m) : l = m :=
  words_same hl.2 hm.2 (Nat.le_antisymm (hl.len hm h) (hm.len hl h.symm)) h
set_option maxRecDepth 100000 in
set_option maxHeartbeats 2000000 in
theorem spec_HasWords (x : Value) (X n : Nat) (A : Option Addr) (c : Nat) (l : List Nat) (w : World) (hx : Sn w x X) (hX : X < 65536 ^ n) (hn : n ≤ 1000) (hr : RdU w A l) (hc : l.length ≤ c) (hlen : l.length ≤ 1000000) (hl : CanW l) (hv : Vl l = X) (h17 : 17 ≤ w.heap.size) :
    Calls Tryz.prog 53 #[.slice A l.length c, x] w fun e w' => e = .returned (.bool true) ∧ Chg No w w' := by
  have HW := Lib.hid (spec_Words x X n w hx hX hn h17)
  obtain ⟨xA, xn, xc, rfl⟩ : ∃ A n c, x = .slice A n c := by obtain ⟨l, A, c, e, _⟩ := hx.view; exact ⟨_, _, _, e⟩
  obtain ⟨m, hm⟩ : ∃ m, m = l.length := ⟨_, rfl⟩
  have HL := Lib.hid (And.intro hl hv)
  have HR := Lib.hid hr
  rw [← hm] at hc hlen ⊢
  have HM := Lib.hid hm
  clear hx hX hr hl hv hm
  go_enter Tryz.func53, Tryz.ntmps53
  go_wp2_with fail
  refine HW.out.mono ?_
  rintro e w1 ⟨v, u, rfl, h1, h2, h3, h4, h5⟩
  have hul : u = l := CanW.eq ⟨fun hu => by rw [h2]; exact h3 hu, h4⟩ HL.out.1 (h2.trans HL.out.2.symm)
  subst hul
  have HC := Lib.hid h5
  have HLs := Lib.hid h1
  obtain ⟨vA, vc, rfl, hvr⟩ : ∃ vA vc, v = .slice vA m vc ∧ RdU w1 vA u := by
    rw [HM.out]
    rcases h1 with ⟨rfl, rfl⟩ | ⟨b, o, cc, rfl, hn1, hv1⟩
    · exact ⟨none, 0, rfl, fun i hi => by simp at hi⟩
    · refine ⟨_, _, rfl, fun i hi => ⟨_, rfl, ?_⟩⟩
      obtain ⟨y, hy1, hy2⟩ := hn1.isI i (by have := hn1.le; omega)
      have h8 := hv1 i hi
      rw [wd_of hy2] at h8
      have ea : (⟨b, o, none⟩ : Addr).add i = ⟨b, o + i, none⟩ := by simp [Addr.add]
      rw [ea]
      rw [hy2, h8]
  have HV := Lib.hid hvr
  clear h1 h2 h3 h4 h5 hvr
  have m0 : (0 : Int) ≤ (m : Int) := by omega
  have cmm : ((m : Int) != (m : Int)) = false := by simp
  go_wp2_with fail
  go_loopw [16] (fun iv wr => ∃ i : Nat, iv = .int .i64 i ∧ i ≤ m ∧ Hid (Chg No w1 wr)) (fun iv _ => m - (intOf iv).toNat)
  case atStart => exact ⟨0, rfl, by omega, Lib.hid (Chg.refl _ _)⟩
  case round =>
    obtain ⟨i, rfl, hi, hC⟩ := hrel
    by_cases him : i < m
    · have hil : i < u.length := by have := HM.out; omega
      obtain ⟨ad, rfl, c1⟩ := (HR.out.chg (HC.out.then hC.out (fun _ _ _ f => f))) i hil
      obtain ⟨ad2, rfl, c2⟩ := (HV.out.chg hC.out) i hil
      obtain ⟨y, hy⟩ : ∃ y, y = u[i] := ⟨_, rfl⟩
      rw [← hy] at c1 c2
      have i1 : (i : Int) < m := by omega
      have i0 : (0 : Int) ≤ i := by omega
      have wi : wrap64 ((i : Int) + 1) = (i : Int) + 1 := by unfold wrap64; omega
      have d1 : wr.drew.cell? (ad.add i) = some (.int .u64 (y : Nat)) := c1
      have d2 : wr.drew.cell? (ad2.add i) = some (.int .u64 (y : Nat)) := c2
      have cyy : ((y : Int) != (y : Int)) = false := by simp
      clear hil hy
      go_wp2_with fail
      go_region_with (fail)
      all_goals
        go_wp2_with fail
        go_roundw
        case rel => exact ⟨i + 1, by go_num, by omega, Lib.hid (hC.out.drew)⟩
        case measure => simp [intOf]; omega
    · obtain rfl : i = m := by omega
      go_wp2_with fail
      go_ret
      exact ⟨rfl, HC.out.then hC.out (fun _ _ _ f => f)⟩
set_option maxRecDepth 100000 in
set_option maxHeartbeats 2000000 in
/-- A Real is what is told of a value that is not 0. -/
theorem spec_IsReal (P Md : Nat) (ng : Bool) (A : Option Addr) (c : Nat) (l : List Nat) (E : Int) (v : Value) (X n : Nat) (E2 : Int) (w : World) (hv : Sn w v X) (hX : X < 65536 ^ n) (hn : n ≤ 1000) (hX0 : X ≠ 0) (hr : RdU w A l) (hc : l.length ≤ c) (hlen : l.length ≤ 1000000) (hl : CanW l) (h17 : 17 ≤ w.heap.size)
    (h : ∀ m k : Nat, X = m * 2 ^ k → m % 2 = 1 → Vl l = m ∧ E = E2 + k) (hE1 : -1000000 ≤ E2) (hE2 : E2 ≤ 1000000) :
    Calls Tryz.prog 43 #[.agg #[.int .u64 P, .int .i64 Md, .int .i64 1, .bool ng, .slice A l.length c, .int .i64 E], .int .u64 P, .int .i64 Md, .agg #[.bool ng, v, .int .i64 E2]] w fun e w' => e = .returned (.bool true) ∧ Chg No w w' := by
  obtain ⟨vA, vn, vc, rfl⟩ : ∃ A n c, v = .slice A n c := by obtain ⟨l, A, c, e, _⟩ := hv.view; exact ⟨_, _, _, e⟩
  have hvn : vn ≠ 0 := fun e => hX0 ((hv.zero_len).1 e)
  obtain ⟨q, hq⟩ : ∃ q, q = l.length := ⟨_, rfl⟩
  have HH := Lib.hid h
  have HV := Lib.hid (And.intro hv (And.intro hX hX0))
  have HR := Lib.hid (And.intro hr hl)
  rw [← hq] at hc hlen ⊢
  have HQ := Lib.hid hq
  have t1 : ((vn : Int) == 0) = false := beq_eq_false_iff_ne.2 (by omega)
  have t2 : ((P : Int) != (P : Int)) = false := by simp
  have t3 : ((Md : Int) != (Md : Int)) = false := by simp
  have t4 : (ng == ng) = true := by simp
  clear hv hX hX0 hr hl hq h hvn
  go_enter Tryz.func43, Tryz.ntmps43
  go_wp2_with fail
  obtain ⟨b1, b2, k0⟩ := two_new w #[.int .u64 P, .int .i64 Md, .int .i64 1, .bool ng, .slice A q c, .int .i64 E] #[.bool ng, .slice vA vn vc, .int .i64 E2] 43 47
  have HB := Lib.hid (And.intro b1 (And.intro b2 k0))
  clear b1 b2 k0
  generalize (w.alloc (.cells #[.int .u64 P, .int .i64 Md, .int .i64 1, .bool ng, .slice A q c, .int .i64 E] 43)).alloc (.cells #[.bool ng, .slice vA vn vc, .int .i64 E2] 47) = wa at *
  refine (spec_Odd _ X n wa (HV.out.1.chg HB.out.2.2) HV.out.2.1 hn HV.out.2.2).mono ?_
  rintro e w1 ⟨r, m, k, rfl, hr, hm, hodd, hk, hk1⟩
  obtain ⟨hvl, rfl⟩ := HH.out m k hm hodd
  have hkb : k ≤ 16 * 1000 := by
    have h1 := blen_le (P := 16 * n) HV.out.2.2 (by rw [Nat.pow_mul]; exact HV.out.2.1)
    omega
  have hm2 : m < 65536 ^ n := Nat.lt_of_le_of_lt (by rw [hm]; exact Nat.le_mul_of_pos_right _ (Nat.two_pow_pos _)) HV.out.2.1
  have B1 := HB.out.1.chg hk1 (fun _ f => f)
  have B2 := HB.out.2.1.chg hk1 (fun _ f => f)
  have K1 := Lib.hid (HB.out.2.2.then hk1 (fun _ _ _ f => f))
  have c2 : w1.cell? ⟨w.heap.size, 2, none⟩ = some (.int .i64 1) := B1.cell 2
  have c3 : w1.cell? ⟨w.heap.size, 3, none⟩ = some (.bool ng) := B1.cell 3
  have c4 : w1.cell? ⟨w.heap.size, 4, none⟩ = some (.slice A q c) := B1.cell 4
  have c5 : w1.cell? ⟨w.heap.size, 5, none⟩ = some (.int .i64 (E2 + k)) := B1.cell 5
  have d0 : w1.cell? ⟨w.heap.size + 1, 0, none⟩ = some (.bool ng) := B2.cell 0
  have d2 : w1.cell? ⟨w.heap.size + 1, 2, none⟩ = some (.int .i64 E2) := B2.cell 2
  have HC : Hid (Calls Tryz.prog 53 #[.slice A q c, r] w1 fun e w' => e = .returned (.bool true) ∧ Chg No w1 w') := Lib.hid (by
    have h := spec_HasWords r m n A c l w1 hr hm2 hn (HR.out.1.chg K1.out) (by rw [← HQ.out]; exact hc) (by rw [← HQ.out]; exact hlen) HR.out.2 hvl (Nat.le_trans h17 K1.out.size)
    rw [← HQ.out] at h; exact h)
  have HE : Hid (∀ w2, Chg No w1 w2 → w2.cell? ⟨w.heap.size, 5, none⟩ = some (.int .i64 (E2 + k)) ∧ w2.cell? ⟨w.heap.size + 1, 2, none⟩ = some (.int .i64 E2)) := Lib.hid fun w2 h2 => ⟨(B1.chg h2 (fun _ f => f)).cell 5, (B2.chg h2 (fun _ f => f)).cell 2⟩
  have wE : wrap64 (E2 + (k : Int)) = E2 + k := by unfold wrap64; omega
  have wE2 : IntKind.i64.wrap (E2 + (k : Int)) = E2 + k := by rw [IntKind.wrap_i64]; omega
  have t5 : ((E2 + (k : Int)) == (E2 + (k : Int))) = true := by simp
  clear hr hm hodd hk hk1 hvl hkb hm2 B1 B2 HH hE1 hE2
  go_wp2_with fail
  refine HC.out.mono ?_
  rintro e w2 ⟨rfl, hk2⟩
  obtain ⟨c5b, d2b⟩ := HE.out w2 hk2
  have K2 := Lib.hid (K1.out.then hk2 (fun _ _ _ f => f))
  clear hk2
  go_wp2_with fail
  go_ret
  exact ⟨rfl, K2.out⟩
end Go.Proofs.YtacfhndledcmgaaGreatDoor
