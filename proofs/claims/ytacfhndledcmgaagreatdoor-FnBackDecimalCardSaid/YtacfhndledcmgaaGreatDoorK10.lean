/- Lemmas for the law FnBackDecimal: decimal.round, fmtF, texts, numbers of the specification. Conditions: those in each theorem; none besides. -/
import Derived.Test.YtacfhndledcmgaaGreatDoorK9
import Derived.Laws.IdiomStrings
set_option linter.unusedVariables false
set_option linter.unusedSimpArgs false
namespace Go.Proofs.YtacfhndledcmgaaGreatDoor
open Go.RowKit
/-- T is a whole number nearest to N by D. -/
def Near (N D T : Nat) : Prop := 2 * N ≤ (2 * T + 1) * D ∧ 2 * T * D ≤ 2 * N + D
theorem Dp_tail {ds : List Nat} (hd : ∀ d ∈ ds, d < 10) (n : Nat) : ∀ j, ∃ R, R < 10 ^ j ∧ Dp ds (n + j) = Dp ds n * 10 ^ j + R
  | 0 => ⟨0, by simp, by simp⟩
  | j + 1 => by
    obtain ⟨R, h1, h2⟩ := Dp_tail hd n j
    have hg := getD_lt (j := n + j) hd
    refine ⟨10 * R + ds.getD (n + j) 0, by rw [Nat.pow_succ]; omega, ?_⟩
    rw [← Nat.add_assoc, Dp_succ, h2, Nat.pow_succ]
    grind
theorem Nd_parts {ds : List Nat} (hd : ∀ d ∈ ds, d < 10) {n : Nat} (hn : n < ds.length) : ∃ Q R, R < Q ∧ 10 ^ (ds.length - n) = 10 * Q ∧ Nd ds = Nd (ds.take n) * (10 * Q) + ds.getD n 0 * Q + R ∧ (n + 1 = ds.length → Q = 1) := by
  obtain ⟨R, h1, h2⟩ := Dp_tail hd (n + 1) (ds.length - (n + 1))
  rw [show n + 1 + (ds.length - (n + 1)) = ds.length by omega, Dp_len, Dp_succ] at h2
  have e : Dp ds n = Nd (ds.take n) := by unfold Dp; rw [show n - ds.length = 0 by omega]; simp
  refine ⟨10 ^ (ds.length - (n + 1)), R, h1, ?_, ?_, fun h => by rw [show ds.length - (n + 1) = 0 by omega]⟩
  · rw [show ds.length - n = ds.length - (n + 1) + 1 by omega, Nat.pow_succ, Nat.mul_comm]
  · rw [h2, e]; grind
theorem near_up {ds : List Nat} (hd : ∀ d ∈ ds, d < 10) {n : Nat} (hn : n < ds.length) (h : upB ds n = true) : Near (Nd ds) (10 ^ (ds.length - n)) (Nd (ds.take n) + 1) := by
  obtain ⟨Q, R, h1, h2, h3, h4⟩ := Nd_parts hd hn
  have hg := getD_lt (j := n) hd
  have h5 : 5 ≤ ds.getD n 0 := by
    unfold upB at h
    split at h
    · omega
    · exact of_decide_eq_true h
  rw [h2, h3]
  generalize Nd (ds.take n) = T at *
  generalize ds.getD n 0 = g at *
  have g1 : 5 * Q ≤ g * Q := Nat.mul_le_mul_right _ h5
  have g2 : g * Q ≤ 9 * Q := Nat.mul_le_mul_right _ (by omega)
  have g3 : T * (10 * Q) = 10 * (T * Q) := by grind
  have g4 : (2 * (T + 1) + 1) * (10 * Q) = 20 * (T * Q) + 30 * Q := by grind
  have g5 : 2 * (T + 1) * (10 * Q) = 20 * (T * Q) + 20 * Q := by grind
  unfold Near
  rw [g3, g4, g5]
  omega
theorem near_down {ds : List Nat} (hd : ∀ d ∈ ds, d < 10) {n : Nat} (hn : n < ds.length) (h : upB ds n = false) : Near (Nd ds) (10 ^ (ds.length - n)) (Nd (ds.take n)) := by
  obtain ⟨Q, R, h1, h2, h3, h4⟩ := Nd_parts hd hn
  have h5 : ds.getD n 0 < 5 ∨ (ds.getD n 0 = 5 ∧ n + 1 = ds.length) := by
    unfold upB at h
    split at h
    · exact .inr (by assumption)
    · exact .inl (by have := of_decide_eq_false h; omega)
  rw [h2, h3]
  generalize Nd (ds.take n) = T at *
  generalize ds.getD n 0 = g at *
  have g3 : T * (10 * Q) = 10 * (T * Q) := by grind
  have g4 : (2 * T + 1) * (10 * Q) = 20 * (T * Q) + 10 * Q := by grind
  have g5 : 2 * T * (10 * Q) = 20 * (T * Q) := by grind
  unfold Near
  rw [g3, g4, g5]
  rcases h5 with h5 | ⟨h5, h6⟩
  · have g2 : g * Q ≤ 4 * Q := Nat.mul_le_mul_right _ (by omega)
    omega
  · have := h4 h6
    subst this
    omega
/-- A decimal rounded to n figures: nearest, in order. -/
def RoundTo (ds : List Nat) (x : Int) (n : Nat) (ds' : List Nat) (x' : Int) : Prop :=
  ∃ T : Nat, Near (Nd ds) (10 ^ (ds.length - n)) T ∧ ((T = 0 ∧ ds' = [] ∧ x' = 0) ∨
    ((∃ e : Nat, T = Nd ds' * 10 ^ e ∧ (e : Int) = n + (x' - x) - ds'.length) ∧ 0 < ds'.length ∧ ds'.length ≤ ds.length ∧ ds'.getD 0 0 ≠ 0 ∧ ds'.getD (ds'.length - 1) 0 ≠ 0 ∧ x ≤ x' ∧ x' ≤ x + 1 ∧ ds'.length ≤ max n 1))
theorem roundTo_up {ds ds' : List Nat} {x x' : Int} {n : Nat} (hd : ∀ d ∈ ds, d < 10) (hn : n < ds.length) (h : upB ds n = true) (hu : UpTo ds x n ds' x') : RoundTo ds x n ds' x' :=
  ⟨_, near_up hd hn h, .inr hu⟩
theorem roundTo_down {ds : List Nat} {x : Int} {n k : Nat} (hd : ∀ d ∈ ds, d < 10) (hn : n < ds.length) (h : upB ds n = false) (hh : ds.getD 0 0 ≠ 0) (ht : TrimAt (ds.take n) k) : RoundTo ds x n ((ds.take n).take k) (if k = 0 then 0 else x) := by
  have htl : (ds.take n).length = n := by rw [List.length_take]; omega
  have hkn := ht.1
  have hT := Nd_trim ht
  have hkl : ((ds.take n).take k).length = k := by rw [List.length_take]; omega
  refine ⟨_, near_down hd hn h, ?_⟩
  by_cases hk : k = 0
  · subst hk
    left
    refine ⟨?_, by simp, by simp⟩
    rw [hT]; simp [Nd]
  · right
    rw [if_neg hk]
    have hk1 := ht.2.2.resolve_left hk
    rw [htl] at hkn
    refine ⟨⟨n - k, by rw [hT, htl], by rw [hkl]; omega⟩, by omega, by omega, ?_, ?_, by omega, by omega, by omega⟩
    · rw [gd_lt (by omega), List.getElem_take, List.getElem_take, ← gd_lt (by omega)]; exact hh
    · rw [hkl, gd_lt (by omega), List.getElem_take, ← gd_lt (by omega)]; exact hk1
set_option maxRecDepth 100000 in
set_option maxHeartbeats 1000000 in
theorem dec_round (b mb mo mc : Nat) (ds : List Nat) (x : Int) (n : Nat) (w : World) (h : DeX w b mb mo mc ds x) (hl : ds.length ≤ 200000) (hn : n < ds.length) (hh : ds.getD 0 0 ≠ 0) (hx1 : -1000000000 ≤ x) (hx2 : x ≤ 1000000000) :
    Calls Tryz.prog 196 #[.pointer (some ⟨b, 0, none⟩), .int .i64 n] w fun e w' => e = .returned (.tuple #[]) ∧ ∃ ds' x', RoundTo ds x n ds' x' ∧ DeX w' b mb mo mc ds' x' ∧ Chg (DS b mb) w w' := by
  have c0 := h.c0
  have i1 : ¬ (ds.length : Int) ≤ n := by omega
  have t1 : decide (ds.length ≤ n) = false := decide_eq_false (by omega)
  have HS := Lib.hid (dec_should b mb mo mc ds x n w h hl hn)
  cases hu : upB ds n
  · have HD := Lib.hid (dec_roundDown b mb mo mc ds x n w h hl hn)
    have D := Lib.hid h.d10
    have HU := Lib.hid hu
    have HH := Lib.hid hh
    rw [hu] at HS
    clear hu h hh
    go_enter Tryz.func196, Tryz.ntmps196
    go_wp2_with fail
    refine HS.out.mono ?_
    rintro e w1 ⟨rfl, rfl⟩
    go_wp2_with fail
    refine HD.out.mono ?_
    rintro e w1 ⟨rfl, k, k1, k2, k3⟩
    have R := Lib.hid (And.intro k1 (And.intro k2 k3))
    clear k1 k2 k3
    go_wp2_with fail
    go_end0
    exact ⟨rfl, _, _, roundTo_down D.out hn HU.out HH.out R.out.1, R.out.2.1, R.out.2.2.mono (fun _ _ _ f => .inl f)⟩
  · have HD := Lib.hid (dec_roundUp b mb mo mc ds x n w h hl hn hh hx1 hx2)
    have D := Lib.hid h.d10
    have HU := Lib.hid hu
    rw [hu] at HS
    clear hu h hh
    go_enter Tryz.func196, Tryz.ntmps196
    go_wp2_with fail
    refine HS.out.mono ?_
    rintro e w1 ⟨rfl, rfl⟩
    go_wp2_with fail
    refine HD.out.mono ?_
    rintro e w1 ⟨rfl, ds', x', k1, k2, k3⟩
    have R := Lib.hid (And.intro k1 (And.intro k2 k3))
    clear k1 k2 k3
    go_wp2_with fail
    go_end0
    exact ⟨rfl, ds', x', roundTo_up D.out hn HU.out R.out.1, R.out.2.1, R.out.2.2⟩
set_option maxRecDepth 100000 in
set_option maxHeartbeats 1000000 in
theorem dec_round_no (b mb mo mc : Nat) (ds : List Nat) (x n : Int) (w : World) (h : DeX w b mb mo mc ds x) (hn : n < 0 ∨ (ds.length : Int) ≤ n) :
    Calls Tryz.prog 196 #[.pointer (some ⟨b, 0, none⟩), .int .i64 n] w fun e w' => e = .returned (.tuple #[]) ∧ w = w' := by
  have c0 := h.c0
  clear h
  by_cases h0 : n < 0
  · go_enter Tryz.func196, Tryz.ntmps196
    go_wp2_with fail
    refine bodyPost_ret (results_none rfl _ _ _) rfl ?_
    exact ⟨rfl, rfl⟩
  · have h1 : (ds.length : Int) ≤ n := by omega
    have h2 : 0 ≤ n := by omega
    go_enter Tryz.func196, Tryz.ntmps196
    go_wp2_with fail
    refine bodyPost_ret (results_none rfl _ _ _) rfl ?_
    exact ⟨rfl, rfl⟩
theorem App.refl {w : World} {z : Value} {l : List Nat} (h : Ls .u8 256 w z l) : App .u8 256 w w z z l := ⟨h, fun _ _ f => .inl f, Chg.refl _ _⟩
theorem App.trans {w w1 w2 : World} {z r r2 : Value} {l l2 : List Nat} (h : App .u8 256 w w1 z r l) (k : App .u8 256 w1 w2 r r2 l2) : App .u8 256 w w2 z r2 l2 := by
  have hs := h.chg.size
  refine ⟨k.ls, fun b o f => ?_, h.chg.then k.chg (fun x o hx f => ?_)⟩
  · rcases k.fp b o f with f | f
    · exact h.fp b o f
    · exact .inr (by omega)
  · rcases h.fp x o f with f | f
    · exact f
    · omega
theorem App.no {w w1 w2 : World} {z r : Value} {l : List Nat} (h : App .u8 256 w w1 z r l) (k : Chg No w1 w2) : App .u8 256 w w2 z r l :=
  ⟨h.ls.chg km8 k (fun _ _ _ f => f), h.fp, h.chg.then k (fun _ _ _ f => f.elim)⟩
/-- 'append(buf, c)'. -/
theorem wpList_app1 {w0 W : World} {ops : Array Oper} {rest : List Oper} {o : Oper} {a : Act} {Q : Exit → Act → World → Prop} {z0 z : Value} {l : List Nat} {c : Nat} (hgd : o.guard = none) (zo xo : Operand)
    (ho : o.op = .call { callee := .builtin .append, args := #[zo, xo], argTypes := #[56, 56] }) (hze : a.eval zo = z) (hxe : a.eval xo = .slice (some ⟨W.heap.size, 0, none⟩) 1 1) (hA : App .u8 256 w0 W z0 z l) (hc : c < 256) (hbig : l.length < 4000000000) (h17 : 17 ≤ w0.heap.size)
    (h : ∀ r w', App .u8 256 w0 w' z0 r (l ++ [c]) → wpList Tryz.prog ops Q rest (a.put o.dst r) w') : wpList Tryz.prog ops Q (o :: rest) a (W.alloc (.cells #[.int .u8 (c : Nat)] 5)) := by
  obtain ⟨ci, hi1, hi2, hi3, hi4⟩ := info_of info5
  have hA2 := hA.no ((Chg.refl No W).alloc (.cells #[.int .u8 (c : Nat)] 5))
  exact wpList_append_num hgd km8 zo xo 56 56 5 ho ci Tryz.underlying56 hi1 hi2 hi3 (by rw [hi4]; omega) z l hze hA2.ls _ hxe [c] (Src.one Tryz.underlying56 _ _ _ _) (by simpa using hc) (by simp) (by simp; omega) (Nat.le_trans h17 hA2.chg.size)
    (fun r w' happ => h r w' (hA2.trans happ))
/-- 'append(buf, s...)' of a part of bytes in memory. -/
theorem wpList_appS {w0 W : World} {ops : Array Oper} {rest : List Oper} {o : Oper} {a : Act} {Q : Exit → Act → World → Prop} {z0 z : Value} {l vs : List Nat} {mb mo mc n : Nat} (hgd : o.guard = none) (zo xo : Operand)
    (ho : o.op = .call { callee := .builtin .append, args := #[zo, xo], argTypes := #[56, 56] }) (hze : a.eval zo = z) (hxe : a.eval xo = .slice (some ⟨mb, mo, none⟩) n mc) (hn : n = vs.length) (hA : App .u8 256 w0 W z0 z l) (hv : ∀ v ∈ vs, v < 256) (hcell : ∀ j (hj : j < vs.length), W.cell? ⟨mb, mo + j, none⟩ = some (.int .u8 (vs[j] : Nat)))
    (h0 : 0 < vs.length) (hbig : l.length + vs.length < 4000000000) (h17 : 17 ≤ w0.heap.size)
    (h : ∀ r w', App .u8 256 w0 w' z0 r (l ++ vs) → wpList Tryz.prog ops Q rest (a.put o.dst r) w') : wpList Tryz.prog ops Q (o :: rest) a W := by
  obtain ⟨ci, hi1, hi2, hi3, hi4⟩ := info_of info5
  subst hn
  refine wpList_append_num hgd km8 zo xo 56 56 5 ho ci Tryz.underlying56 hi1 hi2 hi3 (by rw [hi4]; omega) z l hze hA.ls _ hxe vs ?_ hv h0 (by omega) (Nat.le_trans h17 hA.chg.size) (fun r w' happ => h r w' (hA.trans happ))
  refine Src.ofSlice _ Tryz.underlying56 _ _ mc _ (by simp) (fun j u hj => ?_) (fun u hu => by obtain ⟨v, _, rfl⟩ := List.mem_map.1 hu; rfl)
  have hjl : j < vs.length := by
    rcases Nat.lt_or_ge j vs.length with h | h
    · exact h
    · rw [List.getElem?_eq_none (by simpa using h)] at hj; cases hj
  have e1 : (⟨mb, mo, none⟩ : Addr).add j = ⟨mb, mo + j, none⟩ := by unfold Addr.add; split <;> simp_all
  rw [e1, hcell j hjl]
  simpa [hjl] using hj
/-- The whole figures, and those behind the point. -/
def intTx (ds : List Nat) (x : Int) : List Nat := if 0 < x then (List.range x.toNat).map fun i => atD ds (i : Nat) else [48]
def fracTx (ds : List Nat) (x : Int) (k : Nat) : List Nat := if 0 < k then 46 :: (List.range k).map fun i => atD ds (x + (i : Nat)) else []
theorem atD_lt {ds : List Nat} (hd : ∀ d ∈ ds, d < 10) (i : Int) : atD ds i < 58 := by
  unfold atD
  split
  · omega
  · have := getD_lt (j := i.toNat) hd; omega
theorem range_snoc (f : Nat → Nat) (n : Nat) : (List.range (n + 1)).map f = (List.range n).map f ++ [f n] := by rw [List.range_succ]; simp
theorem asc_range {ds : List Nat} {m : Nat} (h : m ≤ ds.length) : asc (ds.take m) = (List.range m).map fun i => atD ds (i : Nat) := by
  apply List.ext_getElem
  · rw [asc_length, List.length_take]; simp; omega
  · intro j h1 h2
    rw [asc_get h1]
    simp at h2
    rw [gd_lt (by rw [List.length_take]; omega), List.getElem_take]
    simp only [List.getElem_map, List.getElem_range]
    unfold atD
    rw [if_neg (by omega), Int.toNat_natCast, gd_lt (by omega)]
/-- A decimal boxed anew. -/
theorem DeX.box {w : World} {b mb mo mc : Nat} {ds : List Nat} {x : Int} (h : DeX w b mb mo mc ds x) (h17 : 17 ≤ w.heap.size) : DeX (w.alloc (.cells #[.slice (some ⟨mb, mo, none⟩) ds.length mc, .int .i64 x] 235)) w.heap.size mb mo mc ds x := by
  have k := (Chg.refl No w).alloc (.cells #[.slice (some ⟨mb, mo, none⟩) ds.length mc, .int .i64 x] 235)
  exact ⟨World.cell?_alloc_new _ _ _ _, World.cell?_alloc_new _ _ _ _, Plain.new _ _ _, h17, h.nb.chg km8 k, fun j hj => (wd_congr (k.cell _ _ h.nb.lt (fun f => f))).trans (h.dig j hj), h.d10, Nat.ne_of_lt h.nb.lt⟩
/-- The sign's text. -/
def sgn (n : Bool) : List Nat := if n then [45] else []
/-- The shift by which a Float's mantissa is its value. -/
def shOf (X m : Nat) (E : Int) : Int := blen X + E - (64 * m : Nat)
theorem nat_bitLen_d (x : Value) (X : Nat) (w : World) (hx : Nt w x X) (hX : Small X) (k : Nat) :
    Calls Tryz.prog 194 #[x] (w.drewN k) fun e w' => e = .returned (.int .i64 (blen X)) ∧ ∃ j, w' = w.drewN j :=
  (nat_bitLen x X (w.drewN k) (hx.drewN k) hX).mono fun _ _ ⟨h1, j, h2⟩ => ⟨h1, k + j, by rw [h2]; simp [World.drewN]; omega⟩
theorem App.step {S : Nat → Nat → Prop} {w w1 w2 : World} {z r : Value} {l : List Nat} (h : App .u8 256 w w1 z r l) (k : Chg S w1 w2) (h1 : ∀ y o, S y o → ¬ Fp r y o) (h2 : ∀ y o, y < w.heap.size → ¬ S y o) : App .u8 256 w w2 z r l :=
  ⟨h.ls.chg km8 k (fun b o f g => h1 _ _ g f), h.fp, h.chg.then k (fun x o hx f => absurd f (h2 _ _ hx))⟩
/-- Figures in order that stand for Y times 2 to sh. -/
def DecPure (Y : Nat) (sh : Int) (ds : List Nat) (x : Int) : Prop :=
  (∃ A p, VEq A p ds x ∧ A * 2 ^ (-sh).toNat = Y * 2 ^ sh.toNat * 2 ^ p) ∧ 0 < ds.length ∧ ds.getD 0 0 ≠ 0 ∧ ds.getD (ds.length - 1) 0 ≠ 0 ∧ (∀ d ∈ ds, d < 10) ∧ -100000000 ≤ x ∧ x ≤ 20000
/-- The bytes of a list, as text. -/
def txt (l : List Nat) : ByteArray := ⟨(l.map UInt8.ofNat).toArray⟩
theorem conv_txt (b o c : Nat) (l : List Nat) (w : World) (h : Ls .u8 256 w (.slice (some ⟨b, o, none⟩) l.length c) l) : (convert 56 9 (.slice (some ⟨b, o, none⟩) l.length c)).run Tryz.prog w = .ok (.string (txt l)) w := by
  have hlen : (l.map UInt8.ofNat).length = l.length := by simp
  have hm := h.mem
  have := run_convert_bytes_back (P := Tryz.prog) w 56 9 5 ⟨b, o, none⟩ c (l.map UInt8.ofNat) Tryz.underlying56 Tryz.underlying5 Tryz.underlying9 (fun j hj => by
    have hj' : j < l.length := by rwa [hlen] at hj
    have e1 : (⟨b, o, none⟩ : Addr).add j = ⟨b, o + j, none⟩ := by unfold Addr.add; split <;> simp_all
    rw [e1]
    rcases h with ⟨h, _⟩ | ⟨b', o', c', he, hn, hv⟩
    · cases h
    · cases he
      rw [(hn.isI j (by have := hn.le; omega)).cell, hv j hj', List.getElem_map]
      have := hm l[j] (List.getElem_mem hj')
      have e2 : (UInt8.ofNat l[j]).toNat = l[j] := by simp [UInt8.toNat_ofNat']; omega
      rw [e2])
  rw [hlen] at this
  exact this
/-- A text of R is told; nothing old has changed. -/
def TextOut (R : List Nat → Prop) (w : World) (e : Ending) (w' : World) : Prop := ∃ l, R l ∧ e = .returned (.string (txt l)) ∧ Chg No w w'
theorem DecPure.shift {X t : Nat} {E : Int} {ds : List Nat} {x : Int} (h : DecPure (X * 2 ^ t) (E - t) ds x) : DecPure X E ds x := by
  obtain ⟨⟨A, p, h1, h2⟩, h3⟩ := h
  refine ⟨⟨A, p, h1, ?_⟩, h3⟩
  obtain ⟨a, ha⟩ : ∃ a, a = (-(E - t)).toNat := ⟨_, rfl⟩
  obtain ⟨b, hb⟩ : ∃ b, b = (E - t).toNat := ⟨_, rfl⟩
  obtain ⟨c, hc⟩ : ∃ c, c = (-E).toNat := ⟨_, rfl⟩
  obtain ⟨d, hd⟩ : ∃ d, d = E.toNat := ⟨_, rfl⟩
  rw [← ha, ← hb] at h2
  rw [← hc, ← hd]
  have hx : t + b + c = d + a := by omega
  have h10 : 0 < 2 ^ a := Nat.pow_pos (by decide)
  apply Nat.eq_of_mul_eq_mul_right h10
  have e1 : A * 2 ^ c * 2 ^ a = A * 2 ^ a * 2 ^ c := by grind
  rw [e1, h2]
  have e2 : X * 2 ^ t * 2 ^ b * 2 ^ p * 2 ^ c = X * 2 ^ (t + b + c) * 2 ^ p := by rw [Nat.pow_add, Nat.pow_add]; grind
  rw [e2, hx, Nat.pow_add]; grind
/-- Figures in order are those of their number. -/
theorem digs_of (l : List Nat) (h : ∀ d ∈ l, d < 10) : l = digs (Nd l) l.length := by
  induction hn : l.length generalizing l with
  | zero => rw [List.length_eq_zero_iff] at hn; subst hn; rfl
  | succ n ih =>
    obtain ⟨l', d, rfl⟩ : ∃ l' d, l = l' ++ [d] := by
      have hne : l ≠ [] := by intro e; subst e; cases hn
      exact ⟨l.dropLast, l.getLast hne, (List.dropLast_concat_getLast hne).symm⟩
    have hd : d < 10 := h d (by simp)
    have hl : l'.length = n := by simpa using hn
    simp only [digs]
    rw [Nd_snoc, show (10 * Nd l' + d) / 10 = Nd l' by omega, show (10 * Nd l' + d) % 10 = d by omega]
    exact congrArg (· ++ [d]) (ih l' (fun e he => h e (by simp [he])) hl)
theorem Nd_lt (l : List Nat) (h : ∀ d ∈ l, d < 10) : Nd l < 10 ^ l.length := by
  have := Nd_digs l.length (Nd l)
  rw [← digs_of l h] at this
  rw [this]
  exact Nat.mod_lt _ (Nat.pow_pos (by decide))
theorem DecPure.val {X : Nat} {E : Int} {ds : List Nat} {x : Int} (h : DecPure X E ds x) : X * 2 ^ E.toNat * 10 ^ ((ds.length : Int) - x).toNat = Nd ds * 10 ^ (x - (ds.length : Int)).toNat * 2 ^ (-E).toNat := by
  obtain ⟨⟨A, p, h1, h2⟩, _⟩ := h
  unfold VEq at h1
  generalize (-E).toNat = c at *
  generalize E.toNat = d at *
  generalize ((ds.length : Int) - x).toNat = u at *
  generalize (x - (ds.length : Int)).toNat = v at *
  have hp : 0 < 2 ^ p := Nat.pow_pos (by decide)
  apply Nat.eq_of_mul_eq_mul_right hp
  have e1 : X * 2 ^ d * 10 ^ u * 2 ^ p = A * 2 ^ c * 10 ^ u := by rw [h2]; grind
  have e2 : A * 2 ^ c * 10 ^ u = A * 10 ^ u * 2 ^ c := by grind
  rw [e1, e2, h1]; grind
theorem upTo_size {X m Q : Nat} {E : Int} (h0 : X ≠ 0) (hQ : X < 2 ^ Q) (hE : E + Q ≤ 512) (hm : blen X ≤ 64 * m) (hm8 : m ≤ 8) : upTo X m * 2 ^ (shOf X m E).toNat < WB ^ 8 := by
  have hb := blen_le h0 hQ
  obtain ⟨q1, q2, q3⟩ := blen_spec h0
  rw [WB_two]
  unfold upTo shOf
  rw [Nat.mul_assoc, ← Nat.pow_add]
  generalize blen X = B at *
  obtain ⟨s, hs⟩ : ∃ s, s = 64 * m - B + ((B : Int) + E - (64 * m : Nat)).toNat := ⟨_, rfl⟩
  rw [← hs]
  have h1 : B + s ≤ 64 * 8 := by clear hQ q2 q3; omega
  have h2 : X * 2 ^ s < 2 ^ B * 2 ^ s := Nat.mul_lt_mul_of_pos_right q3 (Nat.pow_pos (by decide))
  rw [← Nat.pow_add] at h2
  generalize 64 * 8 = G at *
  exact Nat.lt_of_lt_of_le h2 (Nat.pow_le_pow_right (by decide) h1)
theorem upTo_ne {X m : Nat} (h0 : X ≠ 0) : upTo X m ≠ 0 := by
  unfold upTo
  exact Nat.mul_ne_zero h0 (Nat.ne_of_gt (Nat.pow_pos (by decide)))
/-- A slice that reads as a list of values, each in one cell. -/
def Sl (w : World) (v : Value) (vs : List Value) : Prop := ∃ A c, v = .slice A vs.length c ∧ vs.length ≤ c ∧ ∀ i (h : i < vs.length), ∃ ad, A = some ad ∧ w.cell? (ad.add i) = some vs[i]
theorem Sl.chg {w w' : World} {v : Value} {vs : List Value} (h : Sl w v vs) (hc : Chg No w w') : Sl w' v vs := by
  obtain ⟨A, c, e, hle, h⟩ := h
  refine ⟨A, c, e, hle, fun i hi => ?_⟩
  obtain ⟨ad, e, hh⟩ := h i hi
  exact ⟨ad, e, hc.cellA hh⟩
def ints (l : List Nat) : List Value := l.map fun n : Nat => Value.int .i64 n
theorem ints_length (l : List Nat) : (ints l).length = l.length := by simp [ints]
theorem ints_get {l : List Nat} {i : Nat} (h : i < (ints l).length) : (ints l)[i] = .int .i64 (l.getD i 0 : Nat) := by
  rw [ints_length] at h
  rw [gd_lt h]; simp [ints]
/-- The number of a list of digits to the base 65536, the lowest first. -/
def Vb : List Nat → Nat
  | [] => 0
  | d :: l => d + 65536 * Vb l
theorem Vb_append (l m : List Nat) : Vb (l ++ m) = Vb l + 65536 ^ l.length * Vb m := by
  induction l with
  | nil => simp [Vb]
  | cons d l ih => simp only [List.cons_append, Vb, ih, List.length_cons, Nat.pow_succ]; grind
theorem Vb_snoc (l : List Nat) (d : Nat) : Vb (l ++ [d]) = Vb l + d * 65536 ^ l.length := by
  rw [Vb_append]; simp [Vb]; grind
/-- Digits of a spec.Nat: the last one is not 0. -/
def Top (l : List Nat) : Prop := l.length = 0 ∨ l.getD (l.length - 1) 0 ≠ 0
/-- A spec.Nat of the value X. -/
def SnL (w : World) (v : Value) (l : List Nat) (X : Nat) : Prop := Sl w v (ints l) ∧ Vb l = X ∧ (∀ d ∈ l, d < 65536) ∧ Top l
def Sn (w : World) (v : Value) (X : Nat) : Prop := ∃ l, SnL w v l X
theorem Sn.chg {w w' : World} {v : Value} {X : Nat} (h : Sn w v X) (hc : Chg No w w') : Sn w' v X := by
  obtain ⟨l, h1, h2⟩ := h
  exact ⟨l, h1.chg hc, h2⟩
theorem Vb_lt {l : List Nat} (h : ∀ d ∈ l, d < 65536) : Vb l < 65536 ^ l.length := by
  induction l with
  | nil => simp [Vb]
  | cons d l ih =>
    have h1 := h d (by simp)
    have h2 := ih fun e he => h e (by simp [he])
    simp only [Vb, List.length_cons, Nat.pow_succ]
    omega
theorem Vb_ge {l : List Nat} (h : Top l) (h0 : 0 < l.length) : 65536 ^ (l.length - 1) ≤ Vb l := by
  have hn := h.resolve_left (by omega)
  obtain ⟨l', d, rfl⟩ : ∃ l' d, l = l' ++ [d] := by
    have hne : l ≠ [] := by intro e; subst e; simp at h0
    exact ⟨l.dropLast, l.getLast hne, (List.dropLast_concat_getLast hne).symm⟩
  rw [Vb_snoc]
  rw [List.length_append, List.length_singleton, Nat.add_sub_cancel, gd_lt (by simp)] at hn
  simp at hn ⊢
  have : 1 * 65536 ^ l'.length ≤ d * 65536 ^ l'.length := Nat.mul_le_mul_right _ (by omega)
  omega
/-- The digits of a number by its bound. -/
theorem Sn_len {l : List Nat} {n : Nat} (h : Top l) (hX : Vb l < 65536 ^ n) : l.length ≤ n := by
  rcases Nat.lt_or_ge n l.length with hlt | hge
  · exfalso
    have h1 := Vb_ge h (by omega)
    have h2 := Nat.pow_le_pow_right (n := 65536) (by decide) (show n ≤ l.length - 1 by omega)
    omega
  · exact hge
/-- Zeros at the end say nothing. -/
theorem Vb_cut {l : List Nat} {k : Nat} (h : TrimAt l k) : Vb (l.take k) = Vb l := by
  obtain ⟨h1, h2, -⟩ := h
  have key : ∀ m : List Nat, (∀ j, m.getD j 0 = 0) → Vb m = 0 := by
    intro m
    induction m with
    | nil => intro _; rfl
    | cons d m ih =>
      intro hm
      have a1 := hm 0
      have a2 := ih fun j => by have := hm (j + 1); simpa using this
      simp at a1
      simp [Vb, a1, a2]
  have e := List.take_append_drop k l
  have : Vb l = Vb (l.take k) + 65536 ^ (l.take k).length * Vb (l.drop k) := by rw [← Vb_append, e]
  rw [this, key (l.drop k) fun j => by
    have := h2 (k + j) (by omega)
    simpa using this]
  simp
theorem Top_cut {l : List Nat} {k : Nat} (h : TrimAt l k) : Top (l.take k) := by
  obtain ⟨h1, h2, h3⟩ := h
  have hl : (l.take k).length = k := by rw [List.length_take]; omega
  unfold Top
  rw [hl]
  rcases h3 with h3 | h3
  · exact .inl h3
  · by_cases hk : k = 0
    · exact .inl hk
    · right
      rw [gd_lt (by rw [hl]; omega), List.getElem_take, ← gd_lt (by omega)]; exact h3
theorem Sl.take {w : World} {A : Option Addr} {c k : Nat} {vs : List Value} (h : ∀ i (h : i < vs.length), ∃ ad, A = some ad ∧ w.cell? (ad.add i) = some vs[i]) (hk : k ≤ vs.length) (hc : vs.length ≤ c) : Sl w (.slice A k c) (vs.take k) := by
  have hl : (vs.take k).length = k := by rw [List.length_take]; omega
  refine ⟨A, c, by rw [hl], by omega, fun i hi => ?_⟩
  obtain ⟨ad, e, hh⟩ := h i (by omega)
  exact ⟨ad, e, by rw [hh, List.getElem_take]⟩
set_option maxRecDepth 100000 in
set_option maxHeartbeats 1000000 in
theorem spec_trim (v : Value) (l : List Nat) (w : World) (h : Sl w v (ints l)) (hb : ∀ d ∈ l, d < 65536) (hl : l.length < 1048576) :
    Calls Tryz.prog 67 #[v] w fun e w' => ∃ r, e = .returned r ∧ Sn w r (Vb l) ∧ w = w' := by
  obtain ⟨A, c, rfl, hle, hcell⟩ := h
  rw [ints_length] at hle
  have hcell' : ∀ i, i < l.length → ∃ ad, A = some ad ∧ w.cell? (ad.add i) = some (.int .i64 (l.getD i 0 : Nat)) := fun i hi => by
    obtain ⟨ad, e, hh⟩ := hcell i (by rw [ints_length]; exact hi)
    exact ⟨ad, e, by rw [hh, ints_get]⟩
  obtain ⟨n, hn⟩ : ∃ n, n = l.length := ⟨_, rfl⟩
  have HT := Lib.hid fun k (hk : TrimAt l k) => (show Sn w (.slice A k c) (Vb l) from
    ⟨l.take k, by have := Sl.take (k := k) hcell (by rw [ints_length]; exact hk.1) (by rw [ints_length]; exact hle); unfold ints at *; rwa [← List.map_take] at this, Vb_cut hk, fun d hd => hb d (List.mem_of_mem_take hd), Top_cut hk⟩)
  rw [ints_length]
  rw [← hn] at hle hl hcell' ⊢
  have HN := Lib.hid hn
  clear hcell hb hn
  go_enter Tryz.func67, Tryz.ntmps67
  go_wp2_with fail
  go_loop [0] (fun v => ∃ k : Nat, k ≤ n ∧ v = .slice A k c ∧ Hid (∀ j, k ≤ j → l.getD j 0 = 0)) (fun v => match v with | .slice _ k _ => k | _ => 0)
  case atStart => exact ⟨n, by omega, rfl, Lib.hid (fun j hj => gd_ge (by rw [← HN.out]; exact hj))⟩
  case round =>
    obtain ⟨k, hk, rfl, hZ⟩ := hrel
    by_cases hk0 : k = 0
    · subst hk0
      go_wp2_with fail
      go_ret
      exact ⟨_, rfl, HT.out 0 ⟨by omega, hZ.out, .inl rfl⟩, rfl⟩
    · obtain ⟨p, rfl⟩ : ∃ p, k = p + 1 := ⟨k - 1, by omega⟩
      have i1 : (0 : Int) < ((p + 1 : Nat) : Int) := by omega
      have i2 : wrap64 (((p + 1 : Nat) : Int) - 1) = (p : Int) := by unfold wrap64; omega
      have i3 : (p : Int) < ((p + 1 : Nat) : Int) := by omega
      have i5 : (p : Int) ≤ c := by omega
      obtain ⟨ad, rfl, hc⟩ := hcell' p (by omega)
      obtain ⟨y, hy⟩ : ∃ y, y = l.getD p 0 := ⟨_, rfl⟩
      rw [← hy] at hc
      by_cases hd : l.getD p 0 = 0
      · have hy0 : y = 0 := by rw [hy, hd]
        subst hy0
        have HD := Lib.hid hd
        clear hd hy
        go_wp2_with fail
        go_round
        case rel =>
          refine ⟨p, by omega, rfl, Lib.hid (fun j h1 => ?_)⟩
          by_cases e : j = p
          · rw [e]; exact HD.out
          · exact hZ.out j (by omega)
        case measure => simp
      · have t1 : ((y : Int) == 0) = false := beq_eq_false_iff_ne.2 (by omega)
        have HD := Lib.hid hd
        clear hd hy
        go_wp2_with fail
        go_ret
        exact ⟨_, rfl, HT.out (p + 1) ⟨by rw [← HN.out]; exact hk, hZ.out, .inr HD.out⟩, rfl⟩
theorem add0 (b j : Nat) : (⟨b, 0, none⟩ : Addr).add j = ⟨b, j, none⟩ := by unfold Addr.add; split <;> simp_all
/-- Neither a word nor a byte. -/
def NoWB (u : Value) : Prop := (∀ n, u ≠ .int .u64 n) ∧ ∀ n, u ≠ .int .u8 n
theorem noWB_int (n : Int) : NoWB (.int .i64 n) := ⟨by simp, by simp⟩
/-- One's own slice under construction. -/
def Gr (w0 w : World) (v : Value) (vs : List Value) : Prop :=
  Chg No w0 w ∧ ∃ b c, v = .slice (some ⟨b, 0, none⟩) vs.length c ∧ vs.length ≤ c ∧ c ≤ maxLen ∧ (w0.heap.size ≤ b ∨ c = 0) ∧ Plain w b ∧ (∀ i (h : i < vs.length), w.cell? ⟨b, i, none⟩ = some vs[i]) ∧ ∀ i, vs.length ≤ i → i < c → ∃ u, w.cell? ⟨b, i, none⟩ = some u ∧ NoWB u
theorem Gr.sl {w0 w : World} {v : Value} {vs : List Value} (h : Gr w0 w v vs) : Sl w v vs := by
  obtain ⟨_, b, c, e, h1, h2, h3, h4, h5, h6⟩ := h
  refine ⟨_, c, e, h1, fun i hi => ⟨_, rfl, ?_⟩⟩
  have e1 : (⟨b, 0, none⟩ : Addr).add i = ⟨b, i, none⟩ := by unfold Addr.add; split <;> simp_all
  rw [e1]; exact h5 i hi
theorem Gr.chg {w0 w w' : World} {v : Value} {vs : List Value} (h : Gr w0 w v vs) (hc : Chg No w w') : Gr w0 w' v vs := by
  obtain ⟨h0, b, c, e, h1, h2, h3, h4, h5, h6⟩ := h
  have hb := h4.lt
  refine ⟨h0.then hc (fun _ _ _ f => f), b, c, e, h1, h2, h3, hc.plain _ h4, fun i hi => (hc.cell _ _ hb (fun f => f)).trans (h5 i hi), fun i a1 a2 => ?_⟩
  obtain ⟨u, hu, hn⟩ := h6 i a1 a2
  exact ⟨u, (hc.cell _ _ hb (fun f => f)).trans hu, hn⟩
/-- An empty one. -/
theorem Gr.start {w0 w : World} (h : Chg No w0 w) (e : TypeId) : Gr w0 (w.alloc (.cells #[] e)) (.slice (some ⟨w.heap.size, 0, none⟩) 0 0) [] :=
  ⟨h.alloc _, w.heap.size, 0, rfl, by simp, by unfold maxLen; omega, .inl h.size, Plain.new _ _ _, fun i hi => absurd hi (by simp), fun i _ hi => absurd hi (by simp)⟩
theorem Src.oneV {P : Program} {tx e' : TypeId} (hk : P.underlying tx = some (.slice e')) (W : World) (v : Value) (hv : v.oneCell' = true) (e : TypeId) :
    Src P 1 tx (.slice (some ⟨W.heap.size, 0, none⟩) 1 1) 1 [v] (W.alloc (.cells #[v] e)) := by
  refine Src.ofSlice _ hk _ 1 1 _ (by simp) (fun j u hj => ?_) (fun u hu => by simp at hu; subst hu; exact hv)
  have e1 : (⟨W.heap.size, 0, none⟩ : Addr).add j = ⟨W.heap.size, j, none⟩ := by unfold Addr.add; split <;> simp_all
  rw [e1, World.cell?_alloc_new]
  cases j with
  | zero => simpa using hj
  | succ j => simp at hj
theorem run_append_gr {P : Program} (w0 w : World) (t ty e : TypeId) (i : TypeInfo) (z0 : Value) (ht : P.underlying t = some (.slice e)) (hi : P.info? e = some i) (hz0 : i.zero = some z0) (hzc : z0.cells = #[z0]) (hzn : NoWB z0) (hs : i.size = 1) (hb : i.bytes ≤ 16)
    (z : Value) (vs : List Value) (hz : Gr w0 w z vs) (u : Value) (hu : u.oneCell' = true) (x : Value) (hsrc : Src P 1 t x 1 [u] w) (hbig : vs.length + 1 ≤ 4294967296) :
    ∃ r w', (Builtin.append_ #[t, t] ty #[z, x]).run P w = .ok r w' ∧ Gr w0 w' r (vs ++ [u]) := by
  obtain ⟨h0, b, c, rfl, h1, h2, h3, h4, h5, h6⟩ := hz
  have hlen : vs.length + 1 = (vs ++ [u]).length := by simp
  have e1 := add0 b
  by_cases hroom : vs.length + 1 ≤ c
  · obtain ⟨u0, hu0, hn0⟩ := h6 vs.length (by omega) (by omega)
    have hr := run_append_room_src (P := P) w t t ty e i ht hi b 0 vs.length c x 1 [u] (by rw [hs]; exact hsrc) hroom
      (fun j hj => by rw [hs]; simp at hj; subst hj; simp [hu0]) (fun j _ => h4.free _)
    rw [hs] at hr
    simp only [Nat.mul_one, Nat.zero_add, World.setCells] at hr
    have h3' : w0.heap.size ≤ b := h3.resolve_right (by omega)
    have hc := h0.setO (S := No) u hu0 hn0.1 hn0.2 (fun hb => by omega)
    refine ⟨_, _, hr, hc, b, c, by rw [← hlen], by rw [← hlen]; exact hroom, h2, h3, h4.setCell _ _, fun j hj => ?_, fun j a1 a2 => ?_⟩
    · rw [← hlen] at hj
      by_cases hj1 : j < vs.length
      · rw [cell_setCell_ne _ _ _ _ _ _ (.inr (by omega)), List.getElem_append_left hj1]; exact h5 j hj1
      · obtain rfl : j = vs.length := by omega
        rw [World.cell?_setCell_same _ _ _ hu0]; simp
    · rw [← hlen] at a1
      rw [cell_setCell_ne _ _ _ _ _ _ (.inr (by omega))]
      exact h6 j (by omega) a2
  · have hfit : Builtin.nextslicecap (vs.length + 1) c * i.bytes ≤ 281474976710656 := by
      have a1 := Nat.mul_le_mul (nextslicecap_le (need := vs.length + 1) (old := c) (by omega)) hb
      omega
    have hfc : (Builtin.firstCells i.size vs.length (.slice (some ⟨b, 0, none⟩) vs.length c)).run P w.drew = .ok vs.toArray w.drew :=
      run_firstCells_some w.drew i.size _ ⟨b, 0, none⟩ _ c _ (by rw [hs]; simp) (fun j v hj => by
        have hjl : j < vs.length := by
          rcases Nat.lt_or_ge j vs.length with h | h
          · exact h
          · rw [List.getElem?_eq_none h] at hj; cases hj
        rw [e1]
        have := h5 j hjl
        rw [List.getElem?_eq_getElem hjl] at hj
        rw [← Option.some.inj hj]; exact this)
    have hr := run_append_grow_src (P := P) w t t ty e i z0 ht hi hz0 (some ⟨b, 0, none⟩) vs.length c _ hfc x 1 [u] (by rw [hs]; exact hsrc) (by omega) (by omega) hfit
    have hge := grownCap_ge w (vs.length + 1) c e
    have hle := grownCap_le_maxLen w (vs.length + 1) c e (by unfold maxLen; omega)
    have hzz : ∀ n : Nat, Builtin.zeroCells z0.cells n = Array.replicate n z0 := by
      intro n
      rw [hzc]
      simp only [Builtin.zeroCells]
      apply Array.ext
      · simp
      · intro j h1 h2
        simp [Nat.mod_one]
    rw [hzz] at hr
    have hcell := fun j => World.cell?_alloc_new w.drew ((vs ++ [u]).toArray ++ Array.replicate (grownCap w (vs.length + 1) c e - (vs.length + 1)) z0) e j
    refine ⟨_, _, hr, (h0.drew).alloc _, w.heap.size, _, by rw [← hlen], by rw [← hlen]; exact hge, hle, .inl h0.size, Plain.new _ _ _, fun j hj => ?_, fun j a1 a2 => ⟨z0, ?_, hzn⟩⟩
    · refine (hcell j).trans ?_
      rw [Array.getElem?_append_left (by simpa using hj)]
      simp [hj]
    · rw [← hlen] at a1
      refine (hcell j).trans ?_
      rw [Array.getElem?_append_right (by simp; omega), Array.getElem?_replicate, if_pos (by simp; omega)]
theorem wpList_append_gr {P : Program} {w0 W : World} {ops : Array Oper} {rest : List Oper} {o : Oper} {a : Act} {Q : Exit → Act → World → Prop} (hgd : o.guard = none) (zo xo : Operand) (t e : TypeId)
    (ho : o.op = .call { callee := .builtin .append, args := #[zo, xo], argTypes := #[t, t] }) (i : TypeInfo) (z0 : Value) (ht : P.underlying t = some (.slice e)) (hi : P.info? e = some i) (hz0 : i.zero = some z0) (hzc : z0.cells = #[z0]) (hzn : NoWB z0) (hs : i.size = 1) (hb : i.bytes ≤ 16)
    (z : Value) (vs : List Value) (hze : a.eval zo = z) (hz : Gr w0 W z vs) (u : Value) (hu : u.oneCell' = true) (e' : TypeId) (hxe : a.eval xo = .slice (some ⟨W.heap.size, 0, none⟩) 1 1) (hbig : vs.length + 1 ≤ 4294967296)
    (h : ∀ r w', Gr w0 w' r (vs ++ [u]) → wpList P ops Q rest (a.put o.dst r) w') : wpList P ops Q (o :: rest) a (W.alloc (.cells #[u] e')) := by
  refine wpList_plain hgd fun K hK => ?_
  obtain ⟨r, w', hrun, happ⟩ := run_append_gr w0 (W.alloc (.cells #[u] e')) t o.type e i z0 ht hi hz0 hzc hzn hs hb z vs (hz.chg ((Chg.refl No W).alloc _)) u hu _ (Src.oneV ht W u hu e') hbig
  unfold Oper.wp
  simp [execOp, ho, resolve, invoke, builtin, hze, hxe, hrun, Result.andThen]
  exact hK _ _ (h r w' happ)
theorem info3 : (Tryz.prog.info? 3).map (fun i => (i.zero, i.size, i.bytes)) = some (some (.int .i64 0), 1, 8) := by kernel_rfl
theorem ints_snoc (l : List Nat) (d : Nat) : ints l ++ [.int .i64 d] = ints (l ++ [d]) := by simp [ints]
theorem Top_snoc (l : List Nat) {d : Nat} (h : d ≠ 0) : Top (l ++ [d]) := by
  right
  rw [List.length_append, List.length_singleton, Nat.add_sub_cancel, gd_lt (by simp)]
  simpa using h
theorem Gr.snl {w0 w : World} {v : Value} {l : List Nat} {X : Nat} (h : Gr w0 w v (ints l)) (hX : Vb l = X) (hb : ∀ d ∈ l, d < 65536) (ht : Top l) : Sn w v X := ⟨l, h.sl, hX, hb, ht⟩
set_option maxRecDepth 100000 in
set_option maxHeartbeats 1000000 in
theorem spec_Small (n : Nat) (w : World) (hn : n < 1000000000) :
    Calls Tryz.prog 30 #[.int .i64 n] w fun e w' => ∃ r, e = .returned r ∧ Sn w' r n ∧ Chg No w w' := by
  obtain ⟨ci, hi1, hi2, hi3, hi4⟩ := info_of info3
  have G0 := Lib.hid (Gr.start (Chg.refl No w) 3)
  go_enter Tryz.func30, Tryz.ntmps30
  go_wp2_with fail
  go_loopw [0, 3] (fun mv v wr => ∃ (m : Nat) (l : List Nat), mv = .int .i64 m ∧ m ≤ n ∧ Hid (Gr w wr v (ints l)) ∧ Hid (Vb l + m * 65536 ^ l.length = n) ∧ Hid (∀ d ∈ l, d < 65536) ∧ Hid (m = 0 → Top l) ∧ l.length + m ≤ n) (fun mv _ _ => (intOf mv).toNat)
  case atStart => exact ⟨n, [], rfl, by omega, G0, Lib.hid (by simp [Vb]), Lib.hid (by simp), Lib.hid (fun _ => .inl rfl), by simp⟩
  case round =>
    obtain ⟨m, l, rfl, hm, hG, hV, hB, hT, hlen⟩ := hrel
    by_cases h0 : m = 0
    · subst h0
      go_wp2_with fail
      go_ret
      exact ⟨_, rfl, hG.out.snl (by have := hV.out; simpa using this) hB.out (hT.out (by first | rfl | trivial | simp)), hG.out.1⟩
    · have i1 : (0 : Int) < m := by omega
      obtain ⟨d, hd⟩ : ∃ d, d = m % 65536 := ⟨_, rfl⟩
      obtain ⟨q, hq⟩ : ∃ q, q = m / 65536 := ⟨_, rfl⟩
      have e1 : (m : Int) % 65536 = (d : Int) := by omega
      have e2 : (m : Int) / 65536 = (q : Int) := by omega
      have D := Lib.hid (And.intro hd hq)
      clear hd hq
      go_wp2_with (refine wpList_append_gr (w0 := w) rfl (.tmp 9) (.tmp 12) 29 3 rfl ci _ Tryz.underlying29 hi1 hi2 rfl (noWB_int 0) hi3 (by rw [hi4]; omega) _ (ints l) rfl hG.out (.int .i64 d) rfl 3 rfl (by rw [ints_length]; omega) ?_; intro r w2 happ; have HA := Lib.hid happ; clear happ)
      go_roundw
      case rel =>
        have hm' : m = q * 65536 + d := by have := D.out; omega
        have hlt : d < 65536 := by have := D.out; omega
        have hq' : q < m := by omega
        refine ⟨q, l ++ [d], rfl, by omega, Lib.hid (by rw [← ints_snoc]; exact HA.out), Lib.hid ?_, Lib.hid (fun e he => ?_), Lib.hid (fun h => Top_snoc l (by omega)), by simp; omega⟩
        · rw [Vb_snoc, List.length_append, List.length_singleton, Nat.pow_succ, ← hV.out, hm']
          grind
        · rcases List.mem_append.1 he with h | h
          · exact hB.out e h
          · simp at h; omega
      case measure => have := D.out; simp [intOf]; omega
end Go.Proofs.YtacfhndledcmgaaGreatDoor
