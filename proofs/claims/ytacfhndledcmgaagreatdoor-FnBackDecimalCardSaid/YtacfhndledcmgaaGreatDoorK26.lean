/- Lemmas for the law FnBackDecimal: spec.Words, spec.IsReal, the plain law of a scan. Conditions: those in each theorem; none besides. -/
import Derived.Test.YtacfhndledcmgaaGreatDoorK25
import Derived.Test.YtacfhndledcmgaaGreatDoorK18
import Derived.Deep.RegionHeld3
import Derived.Test.YtacfhndledcmgaaGreatDoorK17
import Derived.Test.YtacfhndledcmgaaGreatDoorM127
import Derived.Test.YtacfhndledcmgaaGreatDoorK9
set_option linter.unusedVariables false
set_option linter.unusedSimpArgs false
namespace Go.Proofs.YtacfhndledcmgaaGreatDoor
open Go.RowKit
/-- Words being packed, in a block that is new. -/
def PkH (w wr : World) (v : Value) (u : List Nat) : Prop := Ls .u64 WB wr v u ∧ (∀ b o, Fp v b o → w.heap.size ≤ b) ∧ Chg No w wr
def PkW (l : List Nat) (w wr : World) (v : Value) (i : Nat) : Prop := ∃ u, PkH w wr v u ∧ Pk l u i
/-- A place is there for the digit i. -/
def PkM (l : List Nat) (w wr : World) (v : Value) (i a : Nat) : Prop := ∃ u, PkH w wr v u ∧ u.length = i / 4 + 1 ∧ u.getD (i / 4) 0 = a ∧ a < 65536 ^ (i % 4) ∧ Pk l (u.set (i / 4) (a + l.getD i 0 * 65536 ^ (i % 4))) (i + 1)
theorem PkW.start (l : List Nat) (w : World) (h17 : 17 ≤ w.heap.size) : PkW l w (w.alloc (.cells #[] 41)) (.slice (some ⟨w.heap.size, 0, none⟩) 0 0) 0 :=
  ⟨[], ⟨.inr ⟨w.heap.size, 0, 0, rfl, ⟨Nat.le_refl _, by unfold maxLen; omega, fun i hi => by omega, Plain.new _ _ _, h17⟩, fun j hj => by simp at hj⟩, fun b o f => by obtain ⟨rfl, h1, h2⟩ := f; omega, (Chg.refl No w).alloc _⟩, Pk.zero l⟩
theorem PkM.old {l : List Nat} {w wr : World} {v : Value} {i : Nat} (h : PkW l w wr v i) (hi : i < l.length) (h4 : i % 4 ≠ 0) (hl : ∀ d ∈ l, d < 65536) : ∃ a, PkM l w wr v i a := by
  obtain ⟨u, h1, h2⟩ := h
  obtain ⟨g1, g2, g3⟩ := h2.add hi h4 hl
  exact ⟨_, u, h1, g1, rfl, g2, g3⟩
theorem PkM.new {l u : List Nat} {w W wr : World} {v r : Value} {i : Nat} (h : PkH w W v u) (hp : Pk l u i) (hi : i < l.length) (h4 : i % 4 = 0) (hl : ∀ d ∈ l, d < 65536) (ha : App .u64 WB W wr v r (u ++ [0])) : PkM l w wr r i 0 := by
  obtain ⟨h1, h2, h3⟩ := h
  have hlen : u.length = i / 4 := by have := hp.2.1; omega
  refine ⟨u ++ [0], ⟨ha.ls, fun b o f => ?_, h3.then ha.chg (fun b o hb f => absurd (h2 b o f) (by omega))⟩, by simp [hlen], by simp [hlen], by rw [h4]; decide, ?_⟩
  · rcases ha.fp b o f with f | f
    · exact h2 b o f
    · exact Nat.le_trans h3.size f
  · rw [h4, Nat.pow_zero, Nat.mul_one, Nat.zero_add, ← hlen, List.set_append_right _ _ (Nat.le_refl _), Nat.sub_self]
    exact hp.new hi h4 hl
theorem PkM.store {l : List Nat} {w wr : World} {v : Value} {i a : Nat} (h : PkM l w wr v i a) : ∃ b o n c, v = .slice (some ⟨b, o, none⟩) n c ∧ i / 4 < n ∧ n ≤ c ∧ wr.cell? ⟨b, o + i / 4, none⟩ = some (.int .u64 a) ∧ wr.frozen? ⟨b, o + i / 4, none⟩ = false ∧
    PkW l w (wr.setCell ⟨b, o + i / 4, none⟩ (.int .u64 (a + l.getD i 0 * 65536 ^ (i % 4) : Nat))) v (i + 1) := by
  obtain ⟨u, ⟨h1, h2, h3⟩, h4, h5, h6, h7⟩ := h
  rcases h1 with ⟨_, rfl⟩ | ⟨b, o, c, rfl, hn, hv⟩
  · simp at h4
  obtain ⟨q, hq⟩ : ∃ q, q = i / 4 := ⟨_, rfl⟩
  rw [← hq] at h4 h5 h7 ⊢
  obtain ⟨y, hy⟩ : ∃ y, y = a + l.getD i 0 * 65536 ^ (i % 4) := ⟨_, rfl⟩
  rw [← hy] at h7 ⊢
  have hle := hn.le
  have hyW : y < WB := h7.2.2.1 y (List.mem_set (l := u) (i := q) (by omega) y)
  have hW : IsW wr b (o + q) := hn.isI q (by omega)
  have hcell : wr.cell? ⟨b, o + q, none⟩ = some (.int .u64 a) := by
    obtain ⟨x, hx1, hx2⟩ := hW
    have h8 := hv q (by omega)
    rw [wd_of hx2] at h8
    rw [hx2, h8, ← h5]
    simp [List.getD, show q < u.length by omega]
  refine ⟨b, o, _, c, rfl, by omega, hle, hcell, hn.plain.free _, u.set q y, ⟨.inr ⟨b, o, c, by rw [List.length_set], ?_, fun j hj => ?_⟩, h2, h3.setW hW hyW (fun hb => absurd (h2 b (o + q) (show Rng b o c b (o + q) from ⟨rfl, by omega, by omega⟩)) (by omega))⟩, h7⟩
  · rw [List.length_set]
    exact hn.chg km64 ((Chg.refl (fun x p => x = b ∧ p = o + q) wr).setW hW hyW (fun _ => ⟨rfl, rfl⟩))
  · rw [List.length_set] at hj
    by_cases e : j = q
    · subst e
      rw [wd_setCell_same hcell]; simp
    · rw [wd_setCell_ne (.inr (by omega)), hv j hj, List.getElem_set_ne (by omega)]
theorem PkW.no {l : List Nat} {w W W' : World} {v : Value} {i : Nat} (h : PkW l w W v i) (k : Chg No W W') : PkW l w W' v i := by
  obtain ⟨u, ⟨h1, h2, h3⟩, h4⟩ := h
  exact ⟨u, ⟨h1.chg km64 k (fun _ _ _ f => f), h2, h3.then k (fun _ _ _ f => f)⟩, h4⟩
theorem info41 : (Tryz.prog.info? 41).map (fun i => (i.zero, i.size, i.bytes)) = some (some (.int .u64 0), 1, 8) := by kernel_rfl
theorem len_of_lt {l : List Nat} {X n : Nat} (hv : Vb l = X) (ht : Top l) (hX : X < 65536 ^ n) (hn : n ≤ 1000) : l.length ≤ 1000 := by
  rcases Nat.lt_or_ge n l.length with h | h
  · exfalso
    have h1 := Vb_ge ht (by omega)
    have h2 : 65536 ^ n ≤ 65536 ^ (l.length - 1) := Nat.pow_le_pow_right (by decide) (by omega)
    omega
  · omega
theorem or_add {a d r : Nat} (ha : a < 65536 ^ r) (hd : d < 65536) (hr : r ≤ 3) : bits BinOp.or .u64 (a : Int) ((d * 65536 ^ r : Nat) : Int) = ((a + d * 65536 ^ r : Nat) : Int) := by
  have e : 65536 ^ r = 2 ^ (16 * r) := by rw [Nat.pow_mul]
  have hw : WB = 18446744073709551616 := rfl
  have h2 : 65536 ^ (r + 1) ≤ WB := (Nat.pow_le_pow_right (by decide) (by omega) : 65536 ^ (r + 1) ≤ 65536 ^ 4)
  have h3 : d * 65536 ^ r ≤ 65535 * 65536 ^ r := Nat.mul_le_mul_right _ (by omega)
  have h4 : 0 < 65536 ^ r := Nat.pow_pos (by decide)
  rw [Nat.pow_succ] at h2
  rw [bits_or_u64_nat _ _ (by omega) (by omega)]
  congr 1
  rw [e] at ha ⊢
  rw [Nat.or_comm, Nat.mul_comm d, ← Nat.two_pow_add_eq_or_of_lt ha, Nat.add_comm]
/-- What Words says. -/
def WdOut (X : Nat) (w : World) (e : Ending) (w' : World) : Prop := ∃ v u, e = .returned v ∧ Ls .u64 WB w' v u ∧ Vl u = X ∧ (u ≠ [] → WB ^ (u.length - 1) ≤ X) ∧ (∀ x ∈ u, x < WB) ∧ Chg No w w'
set_option maxRecDepth 100000 in
set_option maxHeartbeats 2000000 in
theorem spec_Words (x : Value) (X n : Nat) (w : World) (hx : Sn w x X) (hX : X < 65536 ^ n) (hn : n ≤ 1000) (h17 : 17 ≤ w.heap.size) :
    Calls Tryz.prog 111 #[x] w (WdOut X w) := by
  obtain ⟨l, A, c, rfl, hc, hr, hv, hd, ht⟩ := hx.view
  obtain ⟨ci, hi1, hi2, hi3, hi4⟩ := info_of info41
  have hm1000 : l.length ≤ 1000 := len_of_lt hv ht hX hn
  have S0 := Lib.hid (PkW.start l w h17)
  obtain ⟨m, hm⟩ : ∃ m, m = l.length := ⟨_, rfl⟩
  rw [← hm] at hc hm1000 ⊢
  have HM := Lib.hid hm
  have HR := Lib.hid hr
  have HV := Lib.hid (And.intro hv (And.intro hd ht))
  clear hx hX hm hr hv hd ht
  go_enter Tryz.func111, Tryz.ntmps111
  go_wp2_with fail
  go_loopw [3, 9] (fun ov iv wr => ∃ i : Nat, iv = .int .i64 i ∧ i ≤ m ∧ Hid (PkW l w wr ov i)) (fun _ iv _ => m - (intOf iv).toNat)
  case atStart => exact ⟨0, rfl, by omega, S0⟩
  case round =>
    obtain ⟨i, rfl, hi, hP⟩ := hrel
    by_cases him : i < m
    · have hd := HV.out.2.1
      obtain ⟨ad, rfl, c1⟩ := HR.out i (by have := HM.out; omega)
      have hil : i < l.length := by have := HM.out; omega
      obtain ⟨d, hdd⟩ : ∃ d, d = l.getD i 0 := ⟨_, rfl⟩
      have hd16 : d < 65536 := by rw [hdd]; exact dig_lt hd i
      rw [← hdd] at c1
      have c1 : wr.cell? (ad.add i) = some (.int .i64 d) := by
        obtain ⟨u, h1, h2⟩ := hP.out
        exact h1.2.2.cellA c1
      have i1 : (i : Int) < m := by omega
      have i0 : (0 : Int) ≤ i := by omega
      have t0 : (i : Int).tmod 4 = (i % 4 : Nat) := by rw [Int.tmod_eq_emod_of_nonneg i0]; omega
      have HD := Lib.hid (And.intro hdd (And.intro hd hil))
      clear hdd hd hil
      by_cases h4 : i % 4 = 0
      · obtain ⟨u, hu, hp⟩ := hP.out
        have HU := Lib.hid (And.intro hu hp)
        have L := Lib.hid hu.1
        have hul : u.length ≤ 1000 := by have := hp.2.1; omega
        have hsz : 17 ≤ wr.heap.size := Nat.le_trans h17 hu.2.2.size
        clear hu hp
        go_wp2_with (at_builtin; refine wpList_append_num rfl km64 (.tmp 17) (.tmp 18) 22 22 41 rfl ci Tryz.underlying22 hi1 hi2 hi3 (by rw [hi4]; omega) _ u rfl (Ls.alloc km64 L.out _) _ rfl [0] (Src.one Tryz.underlying22 _ _ _ _) (by simp; exact WB_pos) (by simp) (by simp; omega) (by simp; omega) ?_; intro r w2 happ; have HA := Lib.hid happ; clear happ)
        have HMM := Lib.hid (PkM.new ⟨Ls.alloc km64 L.out _, HU.out.1.2.1, HU.out.1.2.2.alloc _⟩ HU.out.2 HD.out.2.2 h4 HD.out.2.1 HA.out)
        obtain ⟨b, o, k, c', rfl, g1, g2, g3, g4, g5⟩ := HMM.out.store
        obtain ⟨q, hq⟩ : ∃ q, q = i / 4 := ⟨_, rfl⟩
        have e1 : (i : Int) / 4 = (q : Int) := by omega
        have e2 : (i : Int).tdiv 4 = (q : Int) := by rw [Int.tdiv_eq_ediv_of_nonneg i0]; exact e1
        rw [← hq] at g1 g3 g4 g5
        have q1 : (q : Int) < k := by omega
        have q0 : (0 : Int) ≤ q := by omega
        have wq : IntKind.i64.wrap (q : Int) = (q : Int) := by rw [IntKind.wrap_i64]; omega
        have wd : IntKind.u64.wrap (d : Int) = (d : Int) := by rw [wrap_cast, Nat.mod_eq_of_lt (Nat.lt_of_lt_of_le hd16 (by decide))]
        have g3d : w2.drew.cell? ⟨b, o + q, none⟩ = some (.int .u64 0) := g3
        have HG := Lib.hid g5
        have e4 : (i : Int).tmod 4 = 0 := by rw [t0]; omega
        have w16 : IntKind.i64.wrap 0 = 0 := by decide
        have HOR : Hid (bits BinOp.or .u64 0 (d : Int) = ((0 + l.getD i 0 * 65536 ^ (i % 4) : Nat) : Int)) := Lib.hid (by
            have h := or_add (a := 0) (d := d) (r := 0) (by decide) hd16 (by decide)
            rw [Nat.pow_zero, Nat.mul_one] at h
            rw [h4, ← HD.out.1, Nat.pow_zero, Nat.mul_one, ← h]; rfl)
        clear g5 g3 hq t0
        go_wp2_with fail
        go_region_with (fail)
        go_wp2_with fail
        go_roundw
        case rel => exact ⟨i + 1, by go_num, by omega, Lib.hid (by have h := HG.out; rw [← HOR.out] at h; exact h.no (Chg.refl No _).drew)⟩
        case measure => simp [intOf]; omega
      · obtain ⟨a, ha⟩ := PkM.old hP.out HD.out.2.2 h4 HD.out.2.1
        obtain ⟨b, o, k, c', rfl, g1, g2, g3, g4, g5⟩ := ha.store
        have t4b : ((i : Int) % 4 == 0) = false := beq_eq_false_iff_ne.2 (by omega)
        obtain ⟨q, hq⟩ : ∃ q, q = i / 4 := ⟨_, rfl⟩
        have e1 : (i : Int) / 4 = (q : Int) := by omega
        have e2 : (i : Int).tdiv 4 = (q : Int) := by rw [Int.tdiv_eq_ediv_of_nonneg i0]; exact e1
        rw [← hq] at g1 g3 g4 g5
        have q1 : (q : Int) < k := by omega
        have q0 : (0 : Int) ≤ q := by omega
        have HQ := Lib.hid hq
        have wq : IntKind.i64.wrap (q : Int) = (q : Int) := by rw [IntKind.wrap_i64]; omega
        have wd : IntKind.u64.wrap (d : Int) = (d : Int) := by rw [wrap_cast, Nat.mod_eq_of_lt (Nat.lt_of_lt_of_le hd16 (by decide))]
        clear hq
        have h5 : i % 4 = 1 ∨ i % 4 = 2 ∨ i % 4 = 3 := by omega
        have HD3 : Hid (a < 65536 ^ (i % 4)) := Lib.hid (by obtain ⟨u, -, -, -, h, -⟩ := ha; exact h)
        have g3d : wr.drew.cell? ⟨b, o + q, none⟩ = some (.int .u64 a) := g3
        have HG := Lib.hid g5
        clear g5 g3 ha
        rcases h5 with h5 | h5 | h5
        · have e3 : (i : Int) % 4 = 1 := by omega
          have e4 : (i : Int).tmod 4 = 1 := by rw [t0]; omega
          clear t0
          have w16 : IntKind.i64.wrap 16 = 16 := by decide
          have ww : IntKind.u64.wrap ((d : Int) * 65536) = (d : Int) * 65536 := by rw [IntKind.wrap_u64]; omega
          have HOR : Hid (bits BinOp.or .u64 (a : Int) ((d : Int) * 65536) = ((a + l.getD i 0 * 65536 ^ (i % 4) : Nat) : Int)) := Lib.hid (by
            have h := or_add (a := a) (d := d) (r := 1) (by rw [← h5]; exact HD3.out) hd16 (by decide)
            rw [h5, ← HD.out.1, ← h]; rfl)
          go_wp2_with fail
          go_region_with (fail)
          go_wp2_with fail
          go_roundw
          case rel => exact ⟨i + 1, by go_num, by omega, Lib.hid (by have h := HG.out; rw [← HOR.out] at h; exact h.no (Chg.refl No _).drew)⟩
          case measure => simp [intOf]; omega
        · have e3 : (i : Int) % 4 = 2 := by omega
          have e4 : (i : Int).tmod 4 = 2 := by rw [t0]; omega
          clear t0
          have w16 : IntKind.i64.wrap 32 = 32 := by decide
          have ww : IntKind.u64.wrap ((d : Int) * 4294967296) = (d : Int) * 4294967296 := by rw [IntKind.wrap_u64]; omega
          have HOR : Hid (bits BinOp.or .u64 (a : Int) ((d : Int) * 4294967296) = ((a + l.getD i 0 * 65536 ^ (i % 4) : Nat) : Int)) := Lib.hid (by
            have h := or_add (a := a) (d := d) (r := 2) (by rw [← h5]; exact HD3.out) hd16 (by decide)
            rw [h5, ← HD.out.1, ← h]; rfl)
          go_wp2_with fail
          go_region_with (fail)
          go_wp2_with fail
          go_roundw
          case rel => exact ⟨i + 1, by go_num, by omega, Lib.hid (by have h := HG.out; rw [← HOR.out] at h; exact h.no (Chg.refl No _).drew)⟩
          case measure => simp [intOf]; omega
        · have e3 : (i : Int) % 4 = 3 := by omega
          have e4 : (i : Int).tmod 4 = 3 := by rw [t0]; omega
          clear t0
          have w16 : IntKind.i64.wrap 48 = 48 := by decide
          have ww : IntKind.u64.wrap ((d : Int) * 281474976710656) = (d : Int) * 281474976710656 := by rw [IntKind.wrap_u64]; omega
          have HOR : Hid (bits BinOp.or .u64 (a : Int) ((d : Int) * 281474976710656) = ((a + l.getD i 0 * 65536 ^ (i % 4) : Nat) : Int)) := Lib.hid (by
            have h := or_add (a := a) (d := d) (r := 3) (by rw [← h5]; exact HD3.out) hd16 (by decide)
            rw [h5, ← HD.out.1, ← h]; rfl)
          go_wp2_with fail
          go_region_with (fail)
          go_wp2_with fail
          go_roundw
          case rel => exact ⟨i + 1, by go_num, by omega, Lib.hid (by have h := HG.out; rw [← HOR.out] at h; exact h.no (Chg.refl No _).drew)⟩
          case measure => simp [intOf]; omega
    · obtain rfl : i = m := by omega
      go_wp2_with fail
      go_ret
      obtain ⟨u, ⟨h1, h2, h3⟩, h4⟩ := hP.out
      have hl := HM.out
      have hv4 : Vl u = X := by rw [h4.2.2.2, List.take_of_length_le (by omega)]; exact HV.out.1
      refine ⟨_, u, rfl, h1, hv4, fun hu => ?_, h4.2.2.1, h3⟩
      have hlen : u.length = (i + 3) / 4 := h4.2.1
      have hpos : 0 < u.length := List.length_pos_iff.2 hu
      have h8 := Vb_ge HV.out.2.2 (by omega)
      rw [HV.out.1] at h8
      rw [wb_pow4]
      exact Nat.le_trans (Nat.pow_le_pow_right (by decide) (by omega)) h8
theorem Vl_lt {l : List Nat} (h : ∀ x ∈ l, x < WB) : Vl l < WB ^ l.length := by
  unfold Vl
  exact V_lt _ fun i hi => by
    have e : l.getD i 0 = l[i] := by simp [List.getD, hi]
    rw [e]; exact h _ (List.getElem_mem _)
/-- Words without a zero on top. -/
def CanW (l : List Nat) : Prop := (l ≠ [] → WB ^ (l.length - 1) ≤ Vl l) ∧ ∀ x ∈ l, x < WB
theorem CanW.len {l m : List Nat} (hl : CanW l) (hm : CanW m) (h : Vl l = Vl m) : l.length ≤ m.length := by
  rcases Nat.lt_or_ge m.length l.length with h1 | h1
  · exfalso
    have h2 := hl.1 (by intro e; rw [e] at h1; simp at h1)
    have h3 := Vl_lt hm.2
    have h4 : WB ^ m.length ≤ WB ^ (l.length - 1) := Nat.pow_le_pow_right WB_pos (by omega)
    omega
  · exact h1
theorem words_same : ∀ {l m : List Nat}, (∀ x ∈ l, x < WB) → (∀ x ∈ m, x < WB) → l.length = m.length → Vl l = Vl m → l = m
  | [], [], _, _, _, _ => rfl
  | [], _ :: _, _, _, h, _ => by simp at h
  | _ :: _, [], _, _, h, _ => by simp at h
  | x :: l, y :: m, h1, h2, h, e => by
    rw [Vl_cons, Vl_cons] at e
    have hx := h1 x (by simp)
    have hy := h2 y (by simp)
    have e1 : x = y := by
      have := congrArg (· % WB) e
      simpa [Nat.add_mul_mod_self_left, Nat.mod_eq_of_lt hx, Nat.mod_eq_of_lt hy] using this
    subst e1
    have e2 : Vl l = Vl m := Nat.eq_of_mul_eq_mul_left WB_pos (by omega)
    rw [words_same (fun z hz => h1 z (by simp [hz])) (fun z hz => h2 z (by simp [hz])) (by simpa using h) e2]
theorem CanW.eq {l m : List Nat} (hl : CanW l) (hm : CanW m) (h : Vl l = Vl m) : l = m :=
  words_same hl.2 hm.2 (Nat.le_antisymm (hl.len hm h) (hm.len hl h.symm)) h
set_option maxRecDepth 100000 in
set_option maxHeartbeats 2000000 in
theorem spec_HasWords (x : Value) (X n : Nat) (A : Option Addr) (c : Nat) (l : List Nat) (w : World) (hx : Sn w x X) (hX : X < 65536 ^ n) (hn : n ≤ 1000) (hr : RdU w A l) (hc : l.length ≤ c) (hlen : l.length ≤ 1000000) (hl : CanW l) (hv : Vl l = X) (h17 : 17 ≤ w.heap.size) :
    Calls Tryz.prog 53 #[.slice A l.length c, x] w fun e w' => e = .returned (.bool true) ∧ Chg No w w' := by
  have HW := Lib.hid (spec_Words x X n w hx hX hn h17)
  obtain ⟨xA, xn, xc, rfl⟩ : ∃ A n c, x = .slice A n c := by obtain ⟨l, A, c, e, _⟩ := hx.view; exact ⟨_, _, _, e⟩
  obtain ⟨m, hm⟩ : ∃ m, m = l.length := ⟨_, rfl⟩
  have HL := Lib.hid (And.intro hl hv)
  have HR := Lib.hid hr
  rw [← hm] at hc hlen ⊢
  have HM := Lib.hid hm
  clear hx hX hr hl hv hm
  go_enter Tryz.func53, Tryz.ntmps53
  go_wp2_with fail
  refine HW.out.mono ?_
  rintro e w1 ⟨v, u, rfl, h1, h2, h3, h4, h5⟩
  have hul : u = l := CanW.eq ⟨fun hu => by rw [h2]; exact h3 hu, h4⟩ HL.out.1 (h2.trans HL.out.2.symm)
  subst hul
  have HC := Lib.hid h5
  have HLs := Lib.hid h1
  obtain ⟨vA, vc, rfl, hvr⟩ : ∃ vA vc, v = .slice vA m vc ∧ RdU w1 vA u := by
    rw [HM.out]
    rcases h1 with ⟨rfl, rfl⟩ | ⟨b, o, cc, rfl, hn1, hv1⟩
    · exact ⟨none, 0, rfl, fun i hi => by simp at hi⟩
    · refine ⟨_, _, rfl, fun i hi => ⟨_, rfl, ?_⟩⟩
      obtain ⟨y, hy1, hy2⟩ := hn1.isI i (by have := hn1.le; omega)
      have h8 := hv1 i hi
      rw [wd_of hy2] at h8
      have ea : (⟨b, o, none⟩ : Addr).add i = ⟨b, o + i, none⟩ := by simp [Addr.add]
      rw [ea]
      rw [hy2, h8]
  have HV := Lib.hid hvr
  clear h1 h2 h3 h4 h5 hvr
  have m0 : (0 : Int) ≤ (m : Int) := by omega
  have cmm : ((m : Int) != (m : Int)) = false := by simp
  go_wp2_with fail
  go_loopw [16] (fun iv wr => ∃ i : Nat, iv = .int .i64 i ∧ i ≤ m ∧ Hid (Chg No w1 wr)) (fun iv _ => m - (intOf iv).toNat)
  case atStart => exact ⟨0, rfl, by omega, Lib.hid (Chg.refl _ _)⟩
  case round =>
    obtain ⟨i, rfl, hi, hC⟩ := hrel
    by_cases him : i < m
    · have hil : i < u.length := by have := HM.out; omega
      obtain ⟨ad, rfl, c1⟩ := (HR.out.chg (HC.out.then hC.out (fun _ _ _ f => f))) i hil
      obtain ⟨ad2, rfl, c2⟩ := (HV.out.chg hC.out) i hil
      obtain ⟨y, hy⟩ : ∃ y, y = u[i] := ⟨_, rfl⟩
      rw [← hy] at c1 c2
      have i1 : (i : Int) < m := by omega
      have i0 : (0 : Int) ≤ i := by omega
      have wi : wrap64 ((i : Int) + 1) = (i : Int) + 1 := by unfold wrap64; omega
      have d1 : wr.drew.cell? (ad.add i) = some (.int .u64 (y : Nat)) := c1
      have d2 : wr.drew.cell? (ad2.add i) = some (.int .u64 (y : Nat)) := c2
      have cyy : ((y : Int) != (y : Int)) = false := by simp
      clear hil hy
      go_wp2_with fail
      go_region_with (fail)
      all_goals
        go_wp2_with fail
        go_roundw
        case rel => exact ⟨i + 1, by go_num, by omega, Lib.hid (hC.out.drew)⟩
        case measure => simp [intOf]; omega
    · obtain rfl : i = m := by omega
      go_wp2_with fail
      go_ret
      exact ⟨rfl, HC.out.then hC.out (fun _ _ _ f => f)⟩
set_option maxRecDepth 100000 in
set_option maxHeartbeats 2000000 in
/-- A Real is what is told of a value that is not 0. -/
theorem spec_IsReal (P Md : Nat) (ng : Bool) (A : Option Addr) (c : Nat) (l : List Nat) (E : Int) (v : Value) (X n : Nat) (E2 : Int) (w : World) (hv : Sn w v X) (hX : X < 65536 ^ n) (hn : n ≤ 1000) (hX0 : X ≠ 0) (hr : RdU w A l) (hc : l.length ≤ c) (hlen : l.length ≤ 1000000) (hl : CanW l) (h17 : 17 ≤ w.heap.size)
    (h : ∀ m k : Nat, X = m * 2 ^ k → m % 2 = 1 → Vl l = m ∧ E = E2 + k) (hE1 : -1000000 ≤ E2) (hE2 : E2 ≤ 1000000) :
    Calls Tryz.prog 43 #[.agg #[.int .u64 P, .int .i64 Md, .int .i64 1, .bool ng, .slice A l.length c, .int .i64 E], .int .u64 P, .int .i64 Md, .agg #[.bool ng, v, .int .i64 E2]] w fun e w' => e = .returned (.bool true) ∧ Chg No w w' := by
  obtain ⟨vA, vn, vc, rfl⟩ : ∃ A n c, v = .slice A n c := by obtain ⟨l, A, c, e, _⟩ := hv.view; exact ⟨_, _, _, e⟩
  have hvn : vn ≠ 0 := fun e => hX0 ((hv.zero_len).1 e)
  obtain ⟨q, hq⟩ : ∃ q, q = l.length := ⟨_, rfl⟩
  have HH := Lib.hid h
  have HV := Lib.hid (And.intro hv (And.intro hX hX0))
  have HR := Lib.hid (And.intro hr hl)
  rw [← hq] at hc hlen ⊢
  have HQ := Lib.hid hq
  have t1 : ((vn : Int) == 0) = false := beq_eq_false_iff_ne.2 (by omega)
  have t2 : ((P : Int) != (P : Int)) = false := by simp
  have t3 : ((Md : Int) != (Md : Int)) = false := by simp
  have t4 : (ng == ng) = true := by simp
  clear hv hX hX0 hr hl hq h hvn
  go_enter Tryz.func43, Tryz.ntmps43
  go_wp2_with fail
  obtain ⟨b1, b2, k0⟩ := two_new w #[.int .u64 P, .int .i64 Md, .int .i64 1, .bool ng, .slice A q c, .int .i64 E] #[.bool ng, .slice vA vn vc, .int .i64 E2] 43 47
  have HB := Lib.hid (And.intro b1 (And.intro b2 k0))
  clear b1 b2 k0
  generalize (w.alloc (.cells #[.int .u64 P, .int .i64 Md, .int .i64 1, .bool ng, .slice A q c, .int .i64 E] 43)).alloc (.cells #[.bool ng, .slice vA vn vc, .int .i64 E2] 47) = wa at *
  refine (spec_Odd _ X n wa (HV.out.1.chg HB.out.2.2) HV.out.2.1 hn HV.out.2.2).mono ?_
  rintro e w1 ⟨r, m, k, rfl, hr, hm, hodd, hk, hk1⟩
  obtain ⟨hvl, rfl⟩ := HH.out m k hm hodd
  have hkb : k ≤ 16 * 1000 := by
    have h1 := blen_le (P := 16 * n) HV.out.2.2 (by rw [Nat.pow_mul]; exact HV.out.2.1)
    omega
  have hm2 : m < 65536 ^ n := Nat.lt_of_le_of_lt (by rw [hm]; exact Nat.le_mul_of_pos_right _ (Nat.two_pow_pos _)) HV.out.2.1
  have B1 := HB.out.1.chg hk1 (fun _ f => f)
  have B2 := HB.out.2.1.chg hk1 (fun _ f => f)
  have K1 := Lib.hid (HB.out.2.2.then hk1 (fun _ _ _ f => f))
  have c2 : w1.cell? ⟨w.heap.size, 2, none⟩ = some (.int .i64 1) := B1.cell 2
  have c3 : w1.cell? ⟨w.heap.size, 3, none⟩ = some (.bool ng) := B1.cell 3
  have c4 : w1.cell? ⟨w.heap.size, 4, none⟩ = some (.slice A q c) := B1.cell 4
  have c5 : w1.cell? ⟨w.heap.size, 5, none⟩ = some (.int .i64 (E2 + k)) := B1.cell 5
  have d0 : w1.cell? ⟨w.heap.size + 1, 0, none⟩ = some (.bool ng) := B2.cell 0
  have d2 : w1.cell? ⟨w.heap.size + 1, 2, none⟩ = some (.int .i64 E2) := B2.cell 2
  have HC : Hid (Calls Tryz.prog 53 #[.slice A q c, r] w1 fun e w' => e = .returned (.bool true) ∧ Chg No w1 w') := Lib.hid (by
    have h := spec_HasWords r m n A c l w1 hr hm2 hn (HR.out.1.chg K1.out) (by rw [← HQ.out]; exact hc) (by rw [← HQ.out]; exact hlen) HR.out.2 hvl (Nat.le_trans h17 K1.out.size)
    rw [← HQ.out] at h; exact h)
  have HE : Hid (∀ w2, Chg No w1 w2 → w2.cell? ⟨w.heap.size, 5, none⟩ = some (.int .i64 (E2 + k)) ∧ w2.cell? ⟨w.heap.size + 1, 2, none⟩ = some (.int .i64 E2)) := Lib.hid fun w2 h2 => ⟨(B1.chg h2 (fun _ f => f)).cell 5, (B2.chg h2 (fun _ f => f)).cell 2⟩
  have wE : wrap64 (E2 + (k : Int)) = E2 + k := by unfold wrap64; omega
  have wE2 : IntKind.i64.wrap (E2 + (k : Int)) = E2 + k := by rw [IntKind.wrap_i64]; omega
  have t5 : ((E2 + (k : Int)) == (E2 + (k : Int))) = true := by simp
  clear hr hm hodd hk hk1 hvl hkb hm2 B1 B2 HH hE1 hE2
  go_wp2_with fail
  refine HC.out.mono ?_
  rintro e w2 ⟨rfl, hk2⟩
  obtain ⟨c5b, d2b⟩ := HE.out w2 hk2
  have K2 := Lib.hid (K1.out.then hk2 (fun _ _ _ f => f))
  clear hk2
  go_wp2_with fail
  go_ret
  exact ⟨rfl, K2.out⟩
theorem and1i' {a : Nat} (h : a < 4294967296) : bits BinOp.and .i64 (a : Int) 1 = ((a % 2 : Nat) : Int) := by
  have h1 : (BitVec.ofInt 64 (a : Int)).toNat = a := by
    rw [BitVec.ofInt_natCast, BitVec.toNat_ofNat]; exact Nat.mod_eq_of_lt (by omega)
  have h2 : (BitVec.ofInt 64 (1 : Int)).toNat = 1 := by decide
  show IntKind.i64.wrap ((BitVec.ofInt 64 (a : Int) &&& BitVec.ofInt 64 (1 : Int)).toNat : Int) = _
  rw [BitVec.toNat_and, h1, h2, show (1 : Nat) = 2 ^ 1 - 1 from rfl, Nat.and_two_pow_sub_one_eq_mod]
  exact IntWalk.i64_in _ (by omega)
theorem pow_step (P X n Q : Nat) (h : P * X ^ n % WB = Q) (h2 : 0 < n) : (if n % 2 = 1 then P * X % WB else P) * (X * X % WB) ^ (n / 2) % WB = Q := by
  rw [← h]
  have e : X ^ n = (if n % 2 = 1 then X else 1) * (X * X) ^ (n / 2) := by
    rw [← Nat.pow_two, ← Nat.pow_mul]
    split
    · next h1 => rw [← Nat.pow_succ']; congr 1; omega
    · next h1 => rw [Nat.one_mul]; congr 1; omega
  rw [e, Nat.mul_mod _ ((X * X % WB) ^ (n / 2)), ← Nat.pow_mod]
  split
  · rw [Nat.mod_mod, ← Nat.mul_mod, Nat.mul_assoc]
  · rw [Nat.one_mul, ← Nat.mul_mod]
set_option maxHeartbeats 1000000 in
/-- A word to a power. -/
theorem pow_ok (x e : Nat) (w : World) (hx : x < WB) (he : e < 1000) : Calls Tryz.prog 145 #[.int .u64 x, .int .i64 e] w fun r w' => r = .returned (.int .u64 (x ^ e % WB : Nat)) ∧ w = w' := by
  obtain ⟨D, hD⟩ : ∃ D, D = x ^ e % WB := ⟨_, rfl⟩
  rw [← hD]
  have HD := Lib.hid hD
  clear hD
  go_enter Tryz.func145, Tryz.ntmps145
  go_wp2_with fail
  go_loop [0, 1, 4] (fun a b c => ∃ X n P : Nat, a = .int .u64 X ∧ b = .int .i64 n ∧ c = .int .u64 P ∧ X < WB ∧ P < WB ∧ n ≤ e ∧ Hid (P * X ^ n % WB = D)) (fun _ b _ => (intOf b).toNat)
  case atStart => exact ⟨x, e, 1, rfl, rfl, rfl, hx, by decide, Nat.le_refl _, Lib.hid (by rw [Nat.one_mul, HD.out])⟩
  case round =>
    obtain ⟨X, n, P, rfl, rfl, rfl, hX, hP, hn, hE⟩ := hrel
    by_cases hz : n = 0
    · subst hz
      go_wp2_with fail
      go_ret
      have h1 := hE.out
      rw [Nat.pow_zero, Nat.mul_one, Nat.mod_eq_of_lt hP] at h1
      exact ⟨by rw [h1]; rfl, rfl⟩
    · have hz' : 0 < n := by omega
      have t1 : decide ((0 : Int) < (n : Int)) = true := decide_eq_true (by omega)
      have a1 : bits BinOp.and .i64 (n : Int) 1 = ((n % 2 : Nat) : Int) := and1i' (by omega)
      obtain ⟨X2, hX2⟩ : ∃ X2, X2 = X * X % WB := ⟨_, rfl⟩
      have e2 : IntKind.u64.wrap ((X : Int) * X) = (X2 : Int) := by rw [hX2, ← wrap_cast, Int.natCast_mul]
      obtain ⟨P2, hP2⟩ : ∃ P2, P2 = P * X % WB := ⟨_, rfl⟩
      have e3 : IntKind.u64.wrap ((P : Int) * X) = (P2 : Int) := by rw [hP2, ← wrap_cast, Int.natCast_mul]
      have hS := pow_step P X n D hE.out hz'
      rw [← hX2, ← hP2] at hS
      have HS := Lib.hid hS
      have l2 : X2 < WB := by rw [hX2]; exact Nat.mod_lt _ WB_pos
      have l3 : P2 < WB := by rw [hP2]; exact Nat.mod_lt _ WB_pos
      obtain ⟨m, hm⟩ : ∃ m, m = n / 2 := ⟨_, rfl⟩
      have e4 : (n : Int) / 2 = (m : Int) := by omega
      have HM := Lib.hid hm
      have hmn : m ≤ n / 2 := by omega
      clear hS hX2 hP2 hE hm
      rcases Nat.mod_two_eq_zero_or_one n with h | h
      · have a2 : ((n % 2 : Nat) : Int) = 0 := by omega
        rw [a2] at a1
        go_wp2_with fail
        go_round
        case rel =>
          refine ⟨X2, m, P, rfl, ?_, rfl, l2, hP, by omega, Lib.hid ?_⟩
          · first | rfl | (congr 1; omega)
          · have := HS.out; rw [if_neg (by omega), ← HM.out] at this; exact this
        case measure => clear e2 e3 a1 a2 t1; simp [intOf, e4]; omega
      · have a2 : ((n % 2 : Nat) : Int) = 1 := by omega
        rw [a2] at a1
        go_wp2_with fail
        go_round
        case rel =>
          refine ⟨X2, m, P2, rfl, ?_, rfl, l2, l3, by omega, Lib.hid ?_⟩
          · first | rfl | (congr 1; omega)
          · have := HS.out; rw [if_pos h, ← HM.out] at this; exact this
        case measure => clear e2 e3 a1 a2 t1; simp [intOf, e4]; omega
/-- The digit of a byte. -/
def dgv (c : Nat) : Nat := if c ≤ 57 then c - 48 else c - 87
/-- A byte that is a digit in base b. -/
def IsDg (b c : Nat) : Prop := (48 ≤ c ∧ c ≤ 57 ∨ 97 ≤ c ∧ c ≤ 122) ∧ dgv c < b
/-- Reading a mantissa: digits so far, their number, where the point lies (or -1). -/
def StN (b c0 : Nat) (ch : Nat → Nat) : Nat → Nat × Nat × Int
  | 0 => (c0, 0, -1)
  | j + 1 => if ch j = 46 then ((StN b c0 ch j).1, (StN b c0 ch j).2.1, ((StN b c0 ch j).1 : Int)) else ((StN b c0 ch j).1 + 1, (StN b c0 ch j).2.1 * b + dgv (ch j), (StN b c0 ch j).2.2)
/-- A mantissa of M bytes that is read whole. -/
def Mnt (b c0 : Nat) (fo : Bool) (ch : Nat → Nat) (M : Nat) : Prop := ∀ j, j < M → (ch j = 46 ∧ fo = true ∧ (StN b c0 ch j).2.2 = -1) ∨ (ch j ≠ 46 ∧ IsDg b (ch j))
theorem StN_cnt (b c0 : Nat) (ch : Nat → Nat) : ∀ j, c0 ≤ (StN b c0 ch j).1 ∧ (StN b c0 ch j).1 ≤ c0 + j ∧ -1 ≤ (StN b c0 ch j).2.2 ∧ (StN b c0 ch j).2.2 ≤ (StN b c0 ch j).1
  | 0 => by simp [StN]
  | j + 1 => by
    have ih := StN_cnt b c0 ch j
    unfold StN
    split
    · simp; omega
    · simp; omega
theorem StN_lt {b c0 : Nat} {fo : Bool} {ch : Nat → Nat} {M : Nat} (h : Mnt b c0 fo ch M) (hb : 0 < b) : ∀ j, j ≤ M → (StN b c0 ch j).2.1 < b ^ (StN b c0 ch j).1
  | 0, _ => by simp only [StN]; exact Nat.pow_pos hb
  | j + 1, hj => by
    have ih := StN_lt h hb j (by omega)
    have h1 := h j (by omega)
    unfold StN
    split
    · exact ih
    · next hne =>
      rcases h1 with ⟨e, _⟩ | ⟨_, h1⟩
      · exact absurd e hne
      · have h2 := h1.2
        simp only
        rw [Nat.pow_succ]
        generalize (StN b c0 ch j).2.1 = N at *
        generalize b ^ (StN b c0 ch j).1 = P at *
        have : N * b + b ≤ P * b := by rw [← Nat.succ_mul]; exact Nat.mul_le_mul_right _ ih
        omega
/-- What is told of the count. -/
def cntOut (s : Nat × Nat × Int) : Int := if 0 ≤ s.2.2 then s.2.2 - s.1 else s.1
/-- A reader has taken the byte at i, or is at the end. -/
def Cur (eo : Addr) (w : World) (r : Nat) (l : List Nat) (i : Nat) (chv errv : Value) : Prop :=
  (i < l.length ∧ chv = .int .u8 (l.getD i 0 : Nat) ∧ errv = .nilIface ∧ RdAt w r l (i + 1)) ∨ (i = l.length ∧ chv = .int .u8 0 ∧ errv = .iface 245 (.pointer (some eo)) ∧ RdAt w r l l.length)
/-- What a read leaves. -/
def CurOut (eo : Addr) (r : Nat) (l : List Nat) (i : Nat) (w : World) (e : Ending) (w' : World) : Prop :=
  ∃ chv errv, e = .returned (.tuple #[chv, errv]) ∧ Cur eo w' r l i chv errv ∧ Chg (Blk r) w w'
theorem rdr_next (eo : Addr) (r : Nat) (l : List Nat) (i : Nat) (w : World) (h : RdAt w r l i) (hl : ∀ x ∈ l, x < 256) (hi : i ≤ l.length) (hn : l.length ≤ 1000000) (he : w.cell? ⟨0, 0, none⟩ = some (.iface 245 (.pointer (some eo)))) :
    Calls Tryz.prog 90 #[.pointer (some ⟨r, 0, none⟩)] w (CurOut eo r l i w) := by
  by_cases hlt : i < l.length
  · refine (rdr_read r l i w h hl hlt hn).mono ?_
    rintro e w' ⟨rfl, h1, h2⟩
    exact ⟨_, _, rfl, .inl ⟨hlt, rfl, rfl, h1⟩, h2⟩
  · obtain rfl : i = l.length := by omega
    refine (rdr_eof r l _ w h he hn).mono ?_
    rintro e w' ⟨rfl, h1, h2⟩
    exact ⟨_, _, rfl, .inr ⟨rfl, rfl, rfl, h1⟩, h2⟩
theorem eof_chg {S : Nat → Nat → Prop} {w w' : World} {v : Value} (he : w.cell? ⟨0, 0, none⟩ = some v) (hc : Chg S w w') (hs : ¬ S 0 0) : w'.cell? ⟨0, 0, none⟩ = some v :=
  (hc.cell 0 0 (World.block_lt_of_cell? _ _ he) hs).trans he
end Go.Proofs.YtacfhndledcmgaaGreatDoor
