/- Lemmas for the law FnShortest: impl.Text, numbers of the specification. Conditions: those in each theorem; none besides. -/
import Derived.Test.YtacfhndledcmgaaGreatDoorH5
import Derived.Laws.IdiomStrings
set_option linter.unusedVariables false
set_option linter.unusedSimpArgs false
namespace Go.Proofs.YtacfhndledcmgaaGreatDoor
open Go.RowKit
/-- The bytes of a list, as text. -/
def txt (l : List Nat) : ByteArray := ⟨(l.map UInt8.ofNat).toArray⟩
theorem conv_txt (b o c : Nat) (l : List Nat) (w : World) (h : Ls .u8 256 w (.slice (some ⟨b, o, none⟩) l.length c) l) : (convert 56 9 (.slice (some ⟨b, o, none⟩) l.length c)).run Tryz.prog w = .ok (.string (txt l)) w := by
  have hlen : (l.map UInt8.ofNat).length = l.length := by simp
  have hm := h.mem
  have := run_convert_bytes_back (P := Tryz.prog) w 56 9 5 ⟨b, o, none⟩ c (l.map UInt8.ofNat) Tryz.underlying56 Tryz.underlying5 Tryz.underlying9 (fun j hj => by
    have hj' : j < l.length := by rwa [hlen] at hj
    have e1 : (⟨b, o, none⟩ : Addr).add j = ⟨b, o + j, none⟩ := by unfold Addr.add; split <;> simp_all
    rw [e1]
    rcases h with ⟨h, _⟩ | ⟨b', o', c', he, hn, hv⟩
    · cases h
    · cases he
      rw [(hn.isI j (by have := hn.le; omega)).cell, hv j hj', List.getElem_map]
      have := hm l[j] (List.getElem_mem hj')
      have e2 : (UInt8.ofNat l[j]).toNat = l[j] := by simp [UInt8.toNat_ofNat']; omega
      rw [e2])
  rw [hlen] at this
  exact this
/-- A text of R is told; nothing old has changed. -/
def TextOut (R : List Nat → Prop) (w : World) (e : Ending) (w' : World) : Prop := ∃ l, R l ∧ e = .returned (.string (txt l)) ∧ Chg No w w'
theorem DecPure.shift {X t : Nat} {E : Int} {ds : List Nat} {x : Int} (h : DecPure (X * 2 ^ t) (E - t) ds x) : DecPure X E ds x := by
  obtain ⟨⟨A, p, h1, h2⟩, h3⟩ := h
  refine ⟨⟨A, p, h1, ?_⟩, h3⟩
  obtain ⟨a, ha⟩ : ∃ a, a = (-(E - t)).toNat := ⟨_, rfl⟩
  obtain ⟨b, hb⟩ : ∃ b, b = (E - t).toNat := ⟨_, rfl⟩
  obtain ⟨c, hc⟩ : ∃ c, c = (-E).toNat := ⟨_, rfl⟩
  obtain ⟨d, hd⟩ : ∃ d, d = E.toNat := ⟨_, rfl⟩
  rw [← ha, ← hb] at h2
  rw [← hc, ← hd]
  have hx : t + b + c = d + a := by omega
  have h10 : 0 < 2 ^ a := Nat.pow_pos (by decide)
  apply Nat.eq_of_mul_eq_mul_right h10
  have e1 : A * 2 ^ c * 2 ^ a = A * 2 ^ a * 2 ^ c := by grind
  rw [e1, h2]
  have e2 : X * 2 ^ t * 2 ^ b * 2 ^ p * 2 ^ c = X * 2 ^ (t + b + c) * 2 ^ p := by rw [Nat.pow_add, Nat.pow_add]; grind
  rw [e2, hx, Nat.pow_add]; grind
/-- Figures in order are those of their number. -/
theorem digs_of (l : List Nat) (h : ∀ d ∈ l, d < 10) : l = digs (Nd l) l.length := by
  induction hn : l.length generalizing l with
  | zero => rw [List.length_eq_zero_iff] at hn; subst hn; rfl
  | succ n ih =>
    obtain ⟨l', d, rfl⟩ : ∃ l' d, l = l' ++ [d] := by
      have hne : l ≠ [] := by intro e; subst e; cases hn
      exact ⟨l.dropLast, l.getLast hne, (List.dropLast_concat_getLast hne).symm⟩
    have hd : d < 10 := h d (by simp)
    have hl : l'.length = n := by simpa using hn
    simp only [digs]
    rw [Nd_snoc, show (10 * Nd l' + d) / 10 = Nd l' by omega, show (10 * Nd l' + d) % 10 = d by omega]
    exact congrArg (· ++ [d]) (ih l' (fun e he => h e (by simp [he])) hl)
theorem Nd_lt (l : List Nat) (h : ∀ d ∈ l, d < 10) : Nd l < 10 ^ l.length := by
  have := Nd_digs l.length (Nd l)
  rw [← digs_of l h] at this
  rw [this]
  exact Nat.mod_lt _ (Nat.pow_pos (by decide))
/-- D is the number of the figures of T that a text with k places shows. -/
def FigLen (T D k : Nat) : Prop := T < 10 ^ D ∧ k < D ∧ (D = k + 1 ∨ 10 ^ (D - 1) ≤ T)
/-- The text of T with D figures, a point ahead of the last k. -/
def ptext (T D k : Nat) : List Nat := asc ((digs T D).take (D - k)) ++ if 0 < k then 46 :: asc ((digs T D).drop (D - k)) else []
theorem Nd_cons (l : List Nat) (d : Nat) : Nd (d :: l) = d * 10 ^ l.length + Nd l := by
  have key : ∀ (l : List Nat) (a : Nat), l.foldl (fun a d => 10 * a + d) a = a * 10 ^ l.length + l.foldl (fun a d => 10 * a + d) 0 := by
    intro l
    induction l with
    | nil => intro a; simp
    | cons e l ih =>
      intro a
      simp only [List.foldl_cons, List.length_cons, Nat.mul_zero, Nat.zero_add]
      rw [ih (10 * a + e), ih e, Nat.pow_succ]
      grind
  unfold Nd
  simp only [List.foldl_cons, Nat.mul_zero, Nat.zero_add]
  exact key l d
theorem DecPure.val {X : Nat} {E : Int} {ds : List Nat} {x : Int} (h : DecPure X E ds x) : X * 2 ^ E.toNat * 10 ^ ((ds.length : Int) - x).toNat = Nd ds * 10 ^ (x - (ds.length : Int)).toNat * 2 ^ (-E).toNat := by
  obtain ⟨⟨A, p, h1, h2⟩, _⟩ := h
  unfold VEq at h1
  generalize (-E).toNat = c at *
  generalize E.toNat = d at *
  generalize ((ds.length : Int) - x).toNat = u at *
  generalize (x - (ds.length : Int)).toNat = v at *
  have hp : 0 < 2 ^ p := Nat.pow_pos (by decide)
  apply Nat.eq_of_mul_eq_mul_right hp
  have e1 : X * 2 ^ d * 10 ^ u * 2 ^ p = A * 2 ^ c * 10 ^ u := by rw [h2]; grind
  have e2 : A * 2 ^ c * 10 ^ u = A * 10 ^ u * 2 ^ c := by grind
  rw [e1, e2, h1]; grind
theorem upTo_size {X m Q : Nat} {E : Int} (h0 : X ≠ 0) (hQ : X < 2 ^ Q) (hE : E + Q ≤ 512) (hm : blen X ≤ 64 * m) (hm8 : m ≤ 8) : upTo X m * 2 ^ (shOf X m E).toNat < WB ^ 8 := by
  have hb := blen_le h0 hQ
  obtain ⟨q1, q2, q3⟩ := blen_spec h0
  rw [WB_two]
  unfold upTo shOf
  rw [Nat.mul_assoc, ← Nat.pow_add]
  generalize blen X = B at *
  obtain ⟨s, hs⟩ : ∃ s, s = 64 * m - B + ((B : Int) + E - (64 * m : Nat)).toNat := ⟨_, rfl⟩
  rw [← hs]
  have h1 : B + s ≤ 64 * 8 := by clear hQ q2 q3; omega
  have h2 : X * 2 ^ s < 2 ^ B * 2 ^ s := Nat.mul_lt_mul_of_pos_right q3 (Nat.pow_pos (by decide))
  rw [← Nat.pow_add] at h2
  generalize 64 * 8 = G at *
  exact Nat.lt_of_lt_of_le h2 (Nat.pow_le_pow_right (by decide) h1)
/-- A slice that reads as a list of values, each in one cell. -/
def Sl (w : World) (v : Value) (vs : List Value) : Prop := ∃ A c, v = .slice A vs.length c ∧ vs.length ≤ c ∧ ∀ i (h : i < vs.length), ∃ ad, A = some ad ∧ w.cell? (ad.add i) = some vs[i]
theorem Sl.chg {w w' : World} {v : Value} {vs : List Value} (h : Sl w v vs) (hc : Chg No w w') : Sl w' v vs := by
  obtain ⟨A, c, e, hle, h⟩ := h
  refine ⟨A, c, e, hle, fun i hi => ?_⟩
  obtain ⟨ad, e, hh⟩ := h i hi
  exact ⟨ad, e, hc.cellA hh⟩
def ints (l : List Nat) : List Value := l.map fun n : Nat => Value.int .i64 n
theorem ints_length (l : List Nat) : (ints l).length = l.length := by simp [ints]
theorem ints_get {l : List Nat} {i : Nat} (h : i < (ints l).length) : (ints l)[i] = .int .i64 (l.getD i 0 : Nat) := by
  rw [ints_length] at h
  rw [gd_lt h]; simp [ints]
/-- The number of a list of digits to the base 65536, the lowest first. -/
def Vb : List Nat → Nat
  | [] => 0
  | d :: l => d + 65536 * Vb l
theorem Vb_append (l m : List Nat) : Vb (l ++ m) = Vb l + 65536 ^ l.length * Vb m := by
  induction l with
  | nil => simp [Vb]
  | cons d l ih => simp only [List.cons_append, Vb, ih, List.length_cons, Nat.pow_succ]; grind
theorem Vb_snoc (l : List Nat) (d : Nat) : Vb (l ++ [d]) = Vb l + d * 65536 ^ l.length := by
  rw [Vb_append]; simp [Vb]; grind
/-- Digits of a spec.Nat: the last one is not 0. -/
def Top (l : List Nat) : Prop := l.length = 0 ∨ l.getD (l.length - 1) 0 ≠ 0
/-- A spec.Nat of the value X. -/
def SnL (w : World) (v : Value) (l : List Nat) (X : Nat) : Prop := Sl w v (ints l) ∧ Vb l = X ∧ (∀ d ∈ l, d < 65536) ∧ Top l
def Sn (w : World) (v : Value) (X : Nat) : Prop := ∃ l, SnL w v l X
theorem Sn.chg {w w' : World} {v : Value} {X : Nat} (h : Sn w v X) (hc : Chg No w w') : Sn w' v X := by
  obtain ⟨l, h1, h2⟩ := h
  exact ⟨l, h1.chg hc, h2⟩
theorem Vb_lt {l : List Nat} (h : ∀ d ∈ l, d < 65536) : Vb l < 65536 ^ l.length := by
  induction l with
  | nil => simp [Vb]
  | cons d l ih =>
    have h1 := h d (by simp)
    have h2 := ih fun e he => h e (by simp [he])
    simp only [Vb, List.length_cons, Nat.pow_succ]
    omega
theorem Vb_ge {l : List Nat} (h : Top l) (h0 : 0 < l.length) : 65536 ^ (l.length - 1) ≤ Vb l := by
  have hn := h.resolve_left (by omega)
  obtain ⟨l', d, rfl⟩ : ∃ l' d, l = l' ++ [d] := by
    have hne : l ≠ [] := by intro e; subst e; simp at h0
    exact ⟨l.dropLast, l.getLast hne, (List.dropLast_concat_getLast hne).symm⟩
  rw [Vb_snoc]
  rw [List.length_append, List.length_singleton, Nat.add_sub_cancel, gd_lt (by simp)] at hn
  simp at hn ⊢
  have : 1 * 65536 ^ l'.length ≤ d * 65536 ^ l'.length := Nat.mul_le_mul_right _ (by omega)
  omega
/-- The digits of a number by its bound. -/
theorem Sn_len {l : List Nat} {n : Nat} (h : Top l) (hX : Vb l < 65536 ^ n) : l.length ≤ n := by
  rcases Nat.lt_or_ge n l.length with hlt | hge
  · exfalso
    have h1 := Vb_ge h (by omega)
    have h2 := Nat.pow_le_pow_right (n := 65536) (by decide) (show n ≤ l.length - 1 by omega)
    omega
  · exact hge
/-- Zeros at the end say nothing. -/
theorem Vb_cut {l : List Nat} {k : Nat} (h : TrimAt l k) : Vb (l.take k) = Vb l := by
  obtain ⟨h1, h2, -⟩ := h
  have key : ∀ m : List Nat, (∀ j, m.getD j 0 = 0) → Vb m = 0 := by
    intro m
    induction m with
    | nil => intro _; rfl
    | cons d m ih =>
      intro hm
      have a1 := hm 0
      have a2 := ih fun j => by have := hm (j + 1); simpa using this
      simp at a1
      simp [Vb, a1, a2]
  have e := List.take_append_drop k l
  have : Vb l = Vb (l.take k) + 65536 ^ (l.take k).length * Vb (l.drop k) := by rw [← Vb_append, e]
  rw [this, key (l.drop k) fun j => by
    have := h2 (k + j) (by omega)
    simpa using this]
  simp
theorem Top_cut {l : List Nat} {k : Nat} (h : TrimAt l k) : Top (l.take k) := by
  obtain ⟨h1, h2, h3⟩ := h
  have hl : (l.take k).length = k := by rw [List.length_take]; omega
  unfold Top
  rw [hl]
  rcases h3 with h3 | h3
  · exact .inl h3
  · by_cases hk : k = 0
    · exact .inl hk
    · right
      rw [gd_lt (by rw [hl]; omega), List.getElem_take, ← gd_lt (by omega)]; exact h3
theorem Sl.take {w : World} {A : Option Addr} {c k : Nat} {vs : List Value} (h : ∀ i (h : i < vs.length), ∃ ad, A = some ad ∧ w.cell? (ad.add i) = some vs[i]) (hk : k ≤ vs.length) (hc : vs.length ≤ c) : Sl w (.slice A k c) (vs.take k) := by
  have hl : (vs.take k).length = k := by rw [List.length_take]; omega
  refine ⟨A, c, by rw [hl], by omega, fun i hi => ?_⟩
  obtain ⟨ad, e, hh⟩ := h i (by omega)
  exact ⟨ad, e, by rw [hh, List.getElem_take]⟩
set_option maxRecDepth 100000 in
set_option maxHeartbeats 1000000 in
theorem spec_trim (v : Value) (l : List Nat) (w : World) (h : Sl w v (ints l)) (hb : ∀ d ∈ l, d < 65536) (hl : l.length < 1048576) :
    Calls Tryz.prog 67 #[v] w fun e w' => ∃ r, e = .returned r ∧ Sn w r (Vb l) ∧ w = w' := by
  obtain ⟨A, c, rfl, hle, hcell⟩ := h
  rw [ints_length] at hle
  have hcell' : ∀ i, i < l.length → ∃ ad, A = some ad ∧ w.cell? (ad.add i) = some (.int .i64 (l.getD i 0 : Nat)) := fun i hi => by
    obtain ⟨ad, e, hh⟩ := hcell i (by rw [ints_length]; exact hi)
    exact ⟨ad, e, by rw [hh, ints_get]⟩
  obtain ⟨n, hn⟩ : ∃ n, n = l.length := ⟨_, rfl⟩
  have HT := Lib.hid fun k (hk : TrimAt l k) => (show Sn w (.slice A k c) (Vb l) from
    ⟨l.take k, by have := Sl.take (k := k) hcell (by rw [ints_length]; exact hk.1) (by rw [ints_length]; exact hle); unfold ints at *; rwa [← List.map_take] at this, Vb_cut hk, fun d hd => hb d (List.mem_of_mem_take hd), Top_cut hk⟩)
  rw [ints_length]
  rw [← hn] at hle hl hcell' ⊢
  have HN := Lib.hid hn
  clear hcell hb hn
  go_enter Tryz.func67, Tryz.ntmps67
  go_wp2_with fail
  go_loop [0] (fun v => ∃ k : Nat, k ≤ n ∧ v = .slice A k c ∧ Hid (∀ j, k ≤ j → l.getD j 0 = 0)) (fun v => match v with | .slice _ k _ => k | _ => 0)
  case atStart => exact ⟨n, by omega, rfl, Lib.hid (fun j hj => gd_ge (by rw [← HN.out]; exact hj))⟩
  case round =>
    obtain ⟨k, hk, rfl, hZ⟩ := hrel
    by_cases hk0 : k = 0
    · subst hk0
      go_wp2_with fail
      go_ret
      exact ⟨_, rfl, HT.out 0 ⟨by omega, hZ.out, .inl rfl⟩, rfl⟩
    · obtain ⟨p, rfl⟩ : ∃ p, k = p + 1 := ⟨k - 1, by omega⟩
      have i1 : (0 : Int) < ((p + 1 : Nat) : Int) := by omega
      have i2 : wrap64 (((p + 1 : Nat) : Int) - 1) = (p : Int) := by unfold wrap64; omega
      have i3 : (p : Int) < ((p + 1 : Nat) : Int) := by omega
      have i5 : (p : Int) ≤ c := by omega
      obtain ⟨ad, rfl, hc⟩ := hcell' p (by omega)
      obtain ⟨y, hy⟩ : ∃ y, y = l.getD p 0 := ⟨_, rfl⟩
      rw [← hy] at hc
      by_cases hd : l.getD p 0 = 0
      · have hy0 : y = 0 := by rw [hy, hd]
        subst hy0
        have HD := Lib.hid hd
        clear hd hy
        go_wp2_with fail
        go_round
        case rel =>
          refine ⟨p, by omega, rfl, Lib.hid (fun j h1 => ?_)⟩
          by_cases e : j = p
          · rw [e]; exact HD.out
          · exact hZ.out j (by omega)
        case measure => simp
      · have t1 : ((y : Int) == 0) = false := beq_eq_false_iff_ne.2 (by omega)
        have HD := Lib.hid hd
        clear hd hy
        go_wp2_with fail
        go_ret
        exact ⟨_, rfl, HT.out (p + 1) ⟨by rw [← HN.out]; exact hk, hZ.out, .inr HD.out⟩, rfl⟩
theorem add0 (b j : Nat) : (⟨b, 0, none⟩ : Addr).add j = ⟨b, j, none⟩ := by unfold Addr.add; split <;> simp_all
/-- Neither a word nor a byte. -/
def NoWB (u : Value) : Prop := (∀ n, u ≠ .int .u64 n) ∧ ∀ n, u ≠ .int .u8 n
theorem noWB_int (n : Int) : NoWB (.int .i64 n) := ⟨by simp, by simp⟩
/-- One's own slice under construction. -/
def Gr (w0 w : World) (v : Value) (vs : List Value) : Prop :=
  Chg No w0 w ∧ ∃ b c, v = .slice (some ⟨b, 0, none⟩) vs.length c ∧ vs.length ≤ c ∧ c ≤ maxLen ∧ (w0.heap.size ≤ b ∨ c = 0) ∧ Plain w b ∧ (∀ i (h : i < vs.length), w.cell? ⟨b, i, none⟩ = some vs[i]) ∧ ∀ i, vs.length ≤ i → i < c → ∃ u, w.cell? ⟨b, i, none⟩ = some u ∧ NoWB u
theorem Gr.sl {w0 w : World} {v : Value} {vs : List Value} (h : Gr w0 w v vs) : Sl w v vs := by
  obtain ⟨_, b, c, e, h1, h2, h3, h4, h5, h6⟩ := h
  refine ⟨_, c, e, h1, fun i hi => ⟨_, rfl, ?_⟩⟩
  have e1 : (⟨b, 0, none⟩ : Addr).add i = ⟨b, i, none⟩ := by unfold Addr.add; split <;> simp_all
  rw [e1]; exact h5 i hi
theorem Gr.chg {w0 w w' : World} {v : Value} {vs : List Value} (h : Gr w0 w v vs) (hc : Chg No w w') : Gr w0 w' v vs := by
  obtain ⟨h0, b, c, e, h1, h2, h3, h4, h5, h6⟩ := h
  have hb := h4.lt
  refine ⟨h0.then hc (fun _ _ _ f => f), b, c, e, h1, h2, h3, hc.plain _ h4, fun i hi => (hc.cell _ _ hb (fun f => f)).trans (h5 i hi), fun i a1 a2 => ?_⟩
  obtain ⟨u, hu, hn⟩ := h6 i a1 a2
  exact ⟨u, (hc.cell _ _ hb (fun f => f)).trans hu, hn⟩
/-- An empty one. -/
theorem Gr.start {w0 w : World} (h : Chg No w0 w) (e : TypeId) : Gr w0 (w.alloc (.cells #[] e)) (.slice (some ⟨w.heap.size, 0, none⟩) 0 0) [] :=
  ⟨h.alloc _, w.heap.size, 0, rfl, by simp, by unfold maxLen; omega, .inl h.size, Plain.new _ _ _, fun i hi => absurd hi (by simp), fun i _ hi => absurd hi (by simp)⟩
theorem Src.oneV {P : Program} {tx e' : TypeId} (hk : P.underlying tx = some (.slice e')) (W : World) (v : Value) (hv : v.oneCell' = true) (e : TypeId) :
    Src P 1 tx (.slice (some ⟨W.heap.size, 0, none⟩) 1 1) 1 [v] (W.alloc (.cells #[v] e)) := by
  refine Src.ofSlice _ hk _ 1 1 _ (by simp) (fun j u hj => ?_) (fun u hu => by simp at hu; subst hu; exact hv)
  have e1 : (⟨W.heap.size, 0, none⟩ : Addr).add j = ⟨W.heap.size, j, none⟩ := by unfold Addr.add; split <;> simp_all
  rw [e1, World.cell?_alloc_new]
  cases j with
  | zero => simpa using hj
  | succ j => simp at hj
theorem run_append_gr {P : Program} (w0 w : World) (t ty e : TypeId) (i : TypeInfo) (z0 : Value) (ht : P.underlying t = some (.slice e)) (hi : P.info? e = some i) (hz0 : i.zero = some z0) (hzc : z0.cells = #[z0]) (hzn : NoWB z0) (hs : i.size = 1) (hb : i.bytes ≤ 16)
    (z : Value) (vs : List Value) (hz : Gr w0 w z vs) (u : Value) (hu : u.oneCell' = true) (x : Value) (hsrc : Src P 1 t x 1 [u] w) (hbig : vs.length + 1 ≤ 4294967296) :
    ∃ r w', (Builtin.append_ #[t, t] ty #[z, x]).run P w = .ok r w' ∧ Gr w0 w' r (vs ++ [u]) := by
  obtain ⟨h0, b, c, rfl, h1, h2, h3, h4, h5, h6⟩ := hz
  have hlen : vs.length + 1 = (vs ++ [u]).length := by simp
  have e1 := add0 b
  by_cases hroom : vs.length + 1 ≤ c
  · obtain ⟨u0, hu0, hn0⟩ := h6 vs.length (by omega) (by omega)
    have hr := run_append_room_src (P := P) w t t ty e i ht hi b 0 vs.length c x 1 [u] (by rw [hs]; exact hsrc) hroom
      (fun j hj => by rw [hs]; simp at hj; subst hj; simp [hu0]) (fun j _ => h4.free _)
    rw [hs] at hr
    simp only [Nat.mul_one, Nat.zero_add, World.setCells] at hr
    have h3' : w0.heap.size ≤ b := h3.resolve_right (by omega)
    have hc := h0.setO (S := No) u hu0 hn0.1 hn0.2 (fun hb => by omega)
    refine ⟨_, _, hr, hc, b, c, by rw [← hlen], by rw [← hlen]; exact hroom, h2, h3, h4.setCell _ _, fun j hj => ?_, fun j a1 a2 => ?_⟩
    · rw [← hlen] at hj
      by_cases hj1 : j < vs.length
      · rw [cell_setCell_ne _ _ _ _ _ _ (.inr (by omega)), List.getElem_append_left hj1]; exact h5 j hj1
      · obtain rfl : j = vs.length := by omega
        rw [World.cell?_setCell_same _ _ _ hu0]; simp
    · rw [← hlen] at a1
      rw [cell_setCell_ne _ _ _ _ _ _ (.inr (by omega))]
      exact h6 j (by omega) a2
  · have hfit : Builtin.nextslicecap (vs.length + 1) c * i.bytes ≤ 281474976710656 := by
      have a1 := Nat.mul_le_mul (nextslicecap_le (need := vs.length + 1) (old := c) (by omega)) hb
      omega
    have hfc : (Builtin.firstCells i.size vs.length (.slice (some ⟨b, 0, none⟩) vs.length c)).run P w.drew = .ok vs.toArray w.drew :=
      run_firstCells_some w.drew i.size _ ⟨b, 0, none⟩ _ c _ (by rw [hs]; simp) (fun j v hj => by
        have hjl : j < vs.length := by
          rcases Nat.lt_or_ge j vs.length with h | h
          · exact h
          · rw [List.getElem?_eq_none h] at hj; cases hj
        rw [e1]
        have := h5 j hjl
        rw [List.getElem?_eq_getElem hjl] at hj
        rw [← Option.some.inj hj]; exact this)
    have hr := run_append_grow_src (P := P) w t t ty e i z0 ht hi hz0 (some ⟨b, 0, none⟩) vs.length c _ hfc x 1 [u] (by rw [hs]; exact hsrc) (by omega) (by omega) hfit
    have hge := grownCap_ge w (vs.length + 1) c e
    have hle := grownCap_le_maxLen w (vs.length + 1) c e (by unfold maxLen; omega)
    have hzz : ∀ n : Nat, Builtin.zeroCells z0.cells n = Array.replicate n z0 := by
      intro n
      rw [hzc]
      simp only [Builtin.zeroCells]
      apply Array.ext
      · simp
      · intro j h1 h2
        simp [Nat.mod_one]
    rw [hzz] at hr
    have hcell := fun j => World.cell?_alloc_new w.drew ((vs ++ [u]).toArray ++ Array.replicate (grownCap w (vs.length + 1) c e - (vs.length + 1)) z0) e j
    refine ⟨_, _, hr, (h0.drew).alloc _, w.heap.size, _, by rw [← hlen], by rw [← hlen]; exact hge, hle, .inl h0.size, Plain.new _ _ _, fun j hj => ?_, fun j a1 a2 => ⟨z0, ?_, hzn⟩⟩
    · refine (hcell j).trans ?_
      rw [Array.getElem?_append_left (by simpa using hj)]
      simp [hj]
    · rw [← hlen] at a1
      refine (hcell j).trans ?_
      rw [Array.getElem?_append_right (by simp; omega), Array.getElem?_replicate, if_pos (by simp; omega)]
theorem wpList_append_gr {P : Program} {w0 W : World} {ops : Array Oper} {rest : List Oper} {o : Oper} {a : Act} {Q : Exit → Act → World → Prop} (hgd : o.guard = none) (zo xo : Operand) (t e : TypeId)
    (ho : o.op = .call { callee := .builtin .append, args := #[zo, xo], argTypes := #[t, t] }) (i : TypeInfo) (z0 : Value) (ht : P.underlying t = some (.slice e)) (hi : P.info? e = some i) (hz0 : i.zero = some z0) (hzc : z0.cells = #[z0]) (hzn : NoWB z0) (hs : i.size = 1) (hb : i.bytes ≤ 16)
    (z : Value) (vs : List Value) (hze : a.eval zo = z) (hz : Gr w0 W z vs) (u : Value) (hu : u.oneCell' = true) (e' : TypeId) (hxe : a.eval xo = .slice (some ⟨W.heap.size, 0, none⟩) 1 1) (hbig : vs.length + 1 ≤ 4294967296)
    (h : ∀ r w', Gr w0 w' r (vs ++ [u]) → wpList P ops Q rest (a.put o.dst r) w') : wpList P ops Q (o :: rest) a (W.alloc (.cells #[u] e')) := by
  refine wpList_plain hgd fun K hK => ?_
  obtain ⟨r, w', hrun, happ⟩ := run_append_gr w0 (W.alloc (.cells #[u] e')) t o.type e i z0 ht hi hz0 hzc hzn hs hb z vs (hz.chg ((Chg.refl No W).alloc _)) u hu _ (Src.oneV ht W u hu e') hbig
  unfold Oper.wp
  simp [execOp, ho, resolve, invoke, builtin, hze, hxe, hrun, Result.andThen]
  exact hK _ _ (h r w' happ)
theorem info3 : (Tryz.prog.info? 3).map (fun i => (i.zero, i.size, i.bytes)) = some (some (.int .i64 0), 1, 8) := by kernel_rfl
theorem ints_snoc (l : List Nat) (d : Nat) : ints l ++ [.int .i64 d] = ints (l ++ [d]) := by simp [ints]
theorem Top_snoc (l : List Nat) {d : Nat} (h : d ≠ 0) : Top (l ++ [d]) := by
  right
  rw [List.length_append, List.length_singleton, Nat.add_sub_cancel, gd_lt (by simp)]
  simpa using h
theorem Gr.snl {w0 w : World} {v : Value} {l : List Nat} {X : Nat} (h : Gr w0 w v (ints l)) (hX : Vb l = X) (hb : ∀ d ∈ l, d < 65536) (ht : Top l) : Sn w v X := ⟨l, h.sl, hX, hb, ht⟩
set_option maxRecDepth 100000 in
set_option maxHeartbeats 1000000 in
theorem spec_Small (n : Nat) (w : World) (hn : n < 1000000000) :
    Calls Tryz.prog 30 #[.int .i64 n] w fun e w' => ∃ r, e = .returned r ∧ Sn w' r n ∧ Chg No w w' := by
  obtain ⟨ci, hi1, hi2, hi3, hi4⟩ := info_of info3
  have G0 := Lib.hid (Gr.start (Chg.refl No w) 3)
  go_enter Tryz.func30, Tryz.ntmps30
  go_wp2_with fail
  go_loopw [0, 3] (fun mv v wr => ∃ (m : Nat) (l : List Nat), mv = .int .i64 m ∧ m ≤ n ∧ Hid (Gr w wr v (ints l)) ∧ Hid (Vb l + m * 65536 ^ l.length = n) ∧ Hid (∀ d ∈ l, d < 65536) ∧ Hid (m = 0 → Top l) ∧ l.length + m ≤ n) (fun mv _ _ => (intOf mv).toNat)
  case atStart => exact ⟨n, [], rfl, by omega, G0, Lib.hid (by simp [Vb]), Lib.hid (by simp), Lib.hid (fun _ => .inl rfl), by simp⟩
  case round =>
    obtain ⟨m, l, rfl, hm, hG, hV, hB, hT, hlen⟩ := hrel
    by_cases h0 : m = 0
    · subst h0
      go_wp2_with fail
      go_ret
      exact ⟨_, rfl, hG.out.snl (by have := hV.out; simpa using this) hB.out (hT.out (by first | rfl | trivial | simp)), hG.out.1⟩
    · have i1 : (0 : Int) < m := by omega
      obtain ⟨d, hd⟩ : ∃ d, d = m % 65536 := ⟨_, rfl⟩
      obtain ⟨q, hq⟩ : ∃ q, q = m / 65536 := ⟨_, rfl⟩
      have e1 : (m : Int) % 65536 = (d : Int) := by omega
      have e2 : (m : Int) / 65536 = (q : Int) := by omega
      have D := Lib.hid (And.intro hd hq)
      clear hd hq
      go_wp2_with (refine wpList_append_gr (w0 := w) rfl (.tmp 9) (.tmp 12) 29 3 rfl ci _ Tryz.underlying29 hi1 hi2 rfl (noWB_int 0) hi3 (by rw [hi4]; omega) _ (ints l) rfl hG.out (.int .i64 d) rfl 3 rfl (by rw [ints_length]; omega) ?_; intro r w2 happ; have HA := Lib.hid happ; clear happ)
      go_roundw
      case rel =>
        have hm' : m = q * 65536 + d := by have := D.out; omega
        have hlt : d < 65536 := by have := D.out; omega
        have hq' : q < m := by omega
        refine ⟨q, l ++ [d], rfl, by omega, Lib.hid (by rw [← ints_snoc]; exact HA.out), Lib.hid ?_, Lib.hid (fun e he => ?_), Lib.hid (fun h => Top_snoc l (by omega)), by simp; omega⟩
        · rw [Vb_snoc, List.length_append, List.length_singleton, Nat.pow_succ, ← hV.out, hm']
          grind
        · rcases List.mem_append.1 he with h | h
          · exact hB.out e h
          · simp at h; omega
      case measure => have := D.out; simp [intOf]; omega
theorem Vb_take_succ (l : List Nat) (k : Nat) : Vb (l.take (k + 1)) = Vb (l.take k) + l.getD k 0 * 65536 ^ k := by
  by_cases h : k < l.length
  · rw [List.take_succ_eq_append_getElem h, Vb_snoc, gd_lt h, List.length_take, Nat.min_eq_left (by omega)]
  · rw [gd_ge (by omega), List.take_of_length_le (by omega), List.take_of_length_le (by omega)]; simp
theorem Vb_set {l : List Nat} {i : Nat} (v : Nat) (h : i < l.length) : Vb (l.set i v) + l.getD i 0 * 65536 ^ i = Vb l + v * 65536 ^ i := by
  induction l generalizing i with
  | nil => simp at h
  | cons d l ih =>
    cases i with
    | zero => simp [Vb]; omega
    | succ i =>
      have := ih (i := i) (by simpa using h)
      simp only [List.set_cons_succ, Vb, List.getD_cons_succ, Nat.pow_succ]
      grind
theorem Vb_drop {l : List Nat} {i : Nat} (h : i < l.length) : Vb (l.drop i) = l.getD i 0 + 65536 * Vb (l.drop (i + 1)) := by
  rw [List.drop_eq_getElem_cons h, Vb, gd_lt h]
theorem Vb_zeros (n : Nat) : Vb (List.replicate n 0) = 0 := by
  induction n with
  | zero => rfl
  | succ n ih => simp [List.replicate_succ, Vb, ih]
theorem Vb_split (l : List Nat) {i : Nat} (h : i ≤ l.length) : Vb l = Vb (l.take i) + 65536 ^ i * Vb (l.drop i) := by
  have := Vb_append (l.take i) (l.drop i)
  rw [List.take_append_drop, List.length_take, Nat.min_eq_left h] at this
  exact this
theorem dig_lt {l : List Nat} (h : ∀ d ∈ l, d < 65536) (i : Nat) : l.getD i 0 < 65536 := by
  by_cases hi : i < l.length
  · rw [gd_lt hi]; exact h _ (List.getElem_mem hi)
  · rw [gd_ge (by omega)]; decide
theorem take_lt {l : List Nat} (h : ∀ d ∈ l, d < 65536) {i : Nat} (hi : i ≤ l.length) : Vb (l.take i) < 65536 ^ i := by
  have := Vb_lt (l := l.take i) fun d hd => h d (List.mem_of_mem_take hd)
  rwa [List.length_take, Nat.min_eq_left hi] at this
theorem set_dig {l : List Nat} (h : ∀ d ∈ l, d < 65536) {i v : Nat} (hv : v < 65536) : ∀ d ∈ l.set i v, d < 65536 := fun d hd => by
  rcases List.mem_or_eq_of_mem_set hd with h1 | h1
  · exact h d h1
  · omega
theorem snoc_dig {l : List Nat} (h : ∀ d ∈ l, d < 65536) {v : Nat} (hv : v < 65536) : ∀ d ∈ l ++ [v], d < 65536 := fun d hd => by
  rcases List.mem_append.1 hd with h1 | h1
  · exact h d h1
  · simp at h1; omega
theorem set_gd {l : List Nat} {i j v : Nat} (h : j ≠ i) : (l.set i v).getD j 0 = l.getD j 0 := by
  simp [List.getD_eq_getElem?_getD, List.getElem?_set_ne (Ne.symm h)]
theorem set_gd_same {l : List Nat} {i v : Nat} (h : i < l.length) : (l.set i v).getD i 0 = v := by
  simp [List.getD_eq_getElem?_getD, h]
/-- The four digits of a word. -/
def d16 (x : Nat) : List Nat := [x % 65536, x / 65536 % 65536, x / 4294967296 % 65536, x / 281474976710656 % 65536]
theorem Vb_d16 {x : Nat} (h : x < WB) : Vb (d16 x) = x := by
  unfold WB at h
  simp only [d16, Vb]; omega
theorem d16_lt (x : Nat) : ∀ d ∈ d16 x, d < 65536 := by
  intro d hd
  simp only [d16, List.mem_cons, List.not_mem_nil, or_false] at hd
  rcases hd with rfl | rfl | rfl | rfl <;> exact Nat.mod_lt _ (by decide)
theorem Vl_cons (x : Nat) (l : List Nat) : Vl (x :: l) = x + WB * Vl l := by
  unfold Vl
  rw [List.length_cons, Nat.add_comm l.length 1, V_split]
  simp only [V, Nat.pow_one, Nat.pow_zero, Nat.zero_add, Nat.mul_one, List.getD_cons_zero]
  congr 2
  exact V_congr _ fun i _ => by rw [Nat.add_comm 1 i]; simp
theorem WB_65536 : WB = 65536 ^ 4 := by decide
theorem Vb_words (l : List Nat) (h : ∀ x ∈ l, x < WB) : Vb (l.flatMap d16) = Vl l := by
  induction l with
  | nil => rfl
  | cons x l ih =>
    rw [List.flatMap_cons, Vb_append, Vl_cons, ih fun y hy => h y (by simp [hy]), Vb_d16 (h x (by simp)), WB_65536]
    rfl
theorem words_lt (l : List Nat) : ∀ d ∈ l.flatMap d16, d < 65536 := by
  intro d hd
  obtain ⟨x, _, hx⟩ := List.mem_flatMap.1 hd
  exact d16_lt x d hx
theorem words_len (l : List Nat) : (l.flatMap d16).length = 4 * l.length := by
  induction l with
  | nil => rfl
  | cons x l ih => rw [List.flatMap_cons, List.length_append, ih]; simp [d16]; omega
/-- The sum's digits so far. -/
theorem add_step {la lb o : List Nat} {i c : Nat} (h : Vb o + c * 65536 ^ i = Vb (la.take i) + Vb (lb.take i)) (ho : o.length = i) :
    Vb (o ++ [(c + la.getD i 0 + lb.getD i 0) % 65536]) + (c + la.getD i 0 + lb.getD i 0) / 65536 * 65536 ^ (i + 1) = Vb (la.take (i + 1)) + Vb (lb.take (i + 1)) := by
  rw [Vb_snoc, ho, Vb_take_succ, Vb_take_succ, Nat.pow_succ]
  generalize la.getD i 0 = x
  generalize lb.getD i 0 = y
  have := Nat.mod_add_div (c + x + y) 65536
  generalize (c + x + y) % 65536 = r at *
  generalize (c + x + y) / 65536 = q at *
  generalize 65536 ^ i = P at *
  have e : r * P + q * (P * 65536) = (c + x + y) * P := by rw [← this]; grind
  have e2 : (c + x + y) * P = c * P + x * P + y * P := by grind
  omega
theorem sub_step {la lb o : List Nat} {i c r c' : Nat} (h : Vb o + Vb (lb.take i) = Vb (la.take i) + c * 65536 ^ i) (ho : o.length = i) (hr : r + lb.getD i 0 + c = la.getD i 0 + 65536 * c') :
    Vb (o ++ [r]) + Vb (lb.take (i + 1)) = Vb (la.take (i + 1)) + c' * 65536 ^ (i + 1) := by
  rw [Vb_snoc, ho, Vb_take_succ, Vb_take_succ, Nat.pow_succ]
  generalize la.getD i 0 = x at *
  generalize lb.getD i 0 = y at *
  generalize 65536 ^ i = P at *
  have e : (r + y + c) * P = (x + 65536 * c') * P := by rw [hr]
  have e1 : (r + y + c) * P = r * P + y * P + c * P := by grind
  have e2 : (x + 65536 * c') * P = x * P + c' * (P * 65536) := by grind
  omega
theorem sub_end {la lb o : List Nat} {c : Nat} (ho : ∀ d ∈ o, d < 65536) (hl : o.length = la.length) (hlb : lb.length ≤ la.length) (hle : Vb lb ≤ Vb la) (h : Vb o + Vb (lb.take la.length) = Vb (la.take la.length) + c * 65536 ^ la.length) : Vb o = Vb la - Vb lb := by
  rw [List.take_of_length_le hlb, List.take_of_length_le (Nat.le_refl _)] at h
  have h1 := Vb_lt ho
  rw [hl] at h1
  generalize 65536 ^ la.length = P at *
  rcases Nat.eq_zero_or_pos c with rfl | hc
  · omega
  · have : 1 * P ≤ c * P := Nat.mul_le_mul_right _ hc
    omega
/-- Shorter is less. -/
theorem short_lt {la lb : List Nat} (ha : ∀ d ∈ la, d < 65536) (hb : Top lb) (h : la.length < lb.length) : Vb la < Vb lb := by
  have h1 := Vb_lt ha
  have h2 := Vb_ge hb (by omega)
  have h3 := Nat.pow_le_pow_right (n := 65536) (by decide) (show la.length ≤ lb.length - 1 by omega)
  omega
/-- The highest digit that differs decides. -/
theorem high_lt {la lb : List Nat} (ha : ∀ d ∈ la, d < 65536) {i : Nat} (hi : i < la.length) (hlen : la.length = lb.length) (he : Vb (la.drop (i + 1)) = Vb (lb.drop (i + 1))) (hd : la.getD i 0 < lb.getD i 0) : Vb la < Vb lb := by
  rw [Vb_split la (i := i) (by omega), Vb_split lb (i := i) (by omega), Vb_drop (l := la) (i := i) hi, Vb_drop (l := lb) (i := i) (hlen ▸ hi), he]
  have h1 := take_lt ha (i := i) (by omega)
  generalize 65536 ^ i = P at *
  generalize Vb (lb.drop (i + 1)) = r
  have h2 : P * (la.getD i 0 + 1 + 65536 * r) ≤ P * (lb.getD i 0 + 65536 * r) := Nat.mul_le_mul_left _ (by omega)
  have e : P * (la.getD i 0 + 1 + 65536 * r) = P * (la.getD i 0 + 65536 * r) + P := by grind
  omega
/-- -1, 0 or 1. -/
def cmp3 (x y : Nat) : Int := if x < y then -1 else if y < x then 1 else 0
theorem blen_half {t : Nat} (h : 0 < t) : blen t = blen (t / 2) + 1 := by
  have h0 : t ≠ 0 := by omega
  by_cases h2 : t / 2 = 0
  · have : t = 1 := by omega
    subst this; decide
  · have h3 : blen (t / 2) = Nat.log2 (t / 2) + 1 := by unfold blen; rw [if_neg h2]
    have a1 := Nat.log2_self_le h2
    have a2 := Nat.lt_log2_self (n := t / 2)
    rw [h3]
    apply blen_of
    · rw [Nat.pow_succ]; omega
    · rw [Nat.pow_succ]; omega
theorem blen_Vb {l : List Nat} {n t : Nat} (hl : l.length = n + 1) (hb : ∀ d ∈ l, d < 65536) (ht : t = l.getD n 0) (h0 : t ≠ 0) : blen (Vb l) = 16 * n + blen t := by
  have h1 := take_lt hb (i := n) (by omega)
  have e : Vb l = Vb (l.take n) + t * 65536 ^ n := by
    have := Vb_take_succ l n
    rw [← hl, List.take_length, ← ht] at this
    exact this
  have h3 : blen t = Nat.log2 t + 1 := by unfold blen; rw [if_neg h0]
  have a1 := Nat.log2_self_le h0
  have a2 := Nat.lt_log2_self (n := t)
  have e16 : 65536 ^ n = 2 ^ (16 * n) := by rw [show (65536 : Nat) = 2 ^ 16 by decide, ← Nat.pow_mul]
  rw [e, h3, ← Nat.add_assoc]
  rw [e16] at h1 ⊢
  apply blen_of
  · rw [Nat.pow_add, Nat.mul_comm (2 ^ (16 * n))]
    have := Nat.mul_le_mul_right (2 ^ (16 * n)) a1
    omega
  · rw [Nat.add_assoc, Nat.pow_add, Nat.mul_comm (2 ^ (16 * n))]
    have := Nat.mul_le_mul_right (2 ^ (16 * n)) (show t + 1 ≤ 2 ^ (t.log2 + 1) by omega)
    rw [Nat.add_mul] at this
    omega
/-- A number of one bit. -/
theorem Vb_bit {q r : Nat} : Vb ((List.replicate (q + 1) 0).set q (2 ^ r)) = 2 ^ (16 * q + r) := by
  have := Vb_set (l := List.replicate (q + 1) 0) (i := q) (2 ^ r) (by simp)
  rw [Vb_zeros, gd_lt (by simp)] at this
  simp at this
  rw [this, show (65536 : Nat) = 2 ^ 16 by decide, ← Nat.pow_mul, ← Nat.pow_add, Nat.add_comm]
/-- What the shift's loop keeps at i. -/
def ShlInv (la : List Nat) (q r i : Nat) (o : List Nat) : Prop := o.length = q + la.length + 1 ∧ Vb o = Vb (la.take i) * 2 ^ r * 65536 ^ q ∧ (∀ d ∈ o, d < 65536) ∧ (∀ j, q + i < j → o.getD j 0 = 0) ∧ o.getD (q + i) 0 < 2 ^ r
theorem shl_start (la : List Nat) (q r : Nat) : ShlInv la q r 0 (List.replicate (q + la.length + 1) 0) := by
  have hz : ∀ n j : Nat, (List.replicate n 0).getD j 0 = 0 := fun n j => by
    rcases Nat.lt_or_ge j n with h | h
    · rw [gd_lt (by simpa using h)]; simp
    · rw [gd_ge (by simpa using h)]
  refine ⟨by simp, by rw [Vb_zeros]; simp [Vb], fun d hd => ?_, fun j _ => hz _ j, by rw [hz]; exact Nat.two_pow_pos r⟩
  rw [List.eq_of_mem_replicate hd]; decide
theorem shl_low {x r : Nat} (hr : r < 16) : x * 2 ^ r % 65536 + 2 ^ r ≤ 65536 := by
  have e : (65536 : Nat) = 2 ^ (16 - r) * 2 ^ r := by rw [← Nat.pow_add, show 16 - r + r = 16 by omega]
  rw [e, Nat.mul_mod_mul_right]
  have := Nat.mod_lt x (Nat.two_pow_pos (16 - r))
  have h2 : (x % 2 ^ (16 - r) + 1) * 2 ^ r ≤ 2 ^ (16 - r) * 2 ^ r := Nat.mul_le_mul_right _ this
  rw [Nat.add_mul] at h2
  omega
theorem shl_step {la o : List Nat} {q r i : Nat} (hr : r < 16) (ha : ∀ d ∈ la, d < 65536) (hi : i < la.length) (h : ShlInv la q r i o) :
    o.getD (q + i) 0 + la.getD i 0 * 2 ^ r % 65536 < 65536 ∧ ShlInv la q r (i + 1) ((o.set (q + i) (o.getD (q + i) 0 + la.getD i 0 * 2 ^ r % 65536)).set (q + i + 1) (la.getD i 0 * 2 ^ r / 65536)) := by
  obtain ⟨h1, h2, h3, h4, h5⟩ := h
  have hx := dig_lt ha i
  have h6 := shl_low (x := la.getD i 0) hr
  generalize hxe : la.getD i 0 = x at *
  generalize hge : o.getD (q + i) 0 = g at *
  have hg : g + x * 2 ^ r % 65536 < 65536 := by omega
  have hp : 0 < 2 ^ r := Nat.two_pow_pos r
  have hq : x * 2 ^ r / 65536 < 2 ^ r := by
    rw [Nat.div_lt_iff_lt_mul (by decide), Nat.mul_comm (2 ^ r)]
    exact Nat.mul_lt_mul_of_pos_right hx hp
  have hq2 : x * 2 ^ r / 65536 < 65536 := by
    have : 2 ^ r ≤ 2 ^ 16 := Nat.pow_le_pow_right (by decide) (by omega)
    omega
  refine ⟨hg, by simp [h1], ?_, set_dig (set_dig h3 hg) hq2, fun j hj => ?_, ?_⟩
  · have s1 := Vb_set (l := o) (i := q + i) (g + x * 2 ^ r % 65536) (by omega)
    have s2 := Vb_set (l := o.set (q + i) (g + x * 2 ^ r % 65536)) (i := q + i + 1) (x * 2 ^ r / 65536) (by simp; omega)
    rw [set_gd (by omega), h4 _ (by omega)] at s2
    rw [hge, h2] at s1
    rw [Vb_take_succ, hxe]
    have hm := Nat.mod_add_div (x * 2 ^ r) 65536
    generalize x * 2 ^ r % 65536 = m at *
    generalize x * 2 ^ r / 65536 = d at *
    generalize Vb ((o.set (q + i) (g + m)).set (q + i + 1) d) = V2 at *
    generalize Vb (o.set (q + i) (g + m)) = V1 at *
    generalize Vb (la.take i) = T at *
    rw [Nat.pow_succ, Nat.pow_add] at s2
    rw [Nat.pow_add] at s1
    generalize 65536 ^ q = Q at *
    generalize 65536 ^ i = P at *
    have e1 : (T + x * P) * 2 ^ r * Q = T * 2 ^ r * Q + (x * 2 ^ r) * (Q * P) := by grind
    have e2 : (m + 65536 * d) * (Q * P) = m * (Q * P) + d * (Q * P * 65536) := by grind
    have e3 : (g + m) * (Q * P) = g * (Q * P) + m * (Q * P) := by grind
    rw [e1, ← hm, e2]
    omega
  · rw [set_gd (by omega), set_gd (by omega)]; exact h4 j (by omega)
  · rw [← Nat.add_assoc, set_gd_same (by simp; omega)]; exact hq
theorem shl_end {la o : List Nat} {q r : Nat} (h : ShlInv la q r la.length o) : Vb o = Vb la * 2 ^ (16 * q + r) := by
  rw [h.2.1, List.take_length, Nat.mul_assoc, show (65536 : Nat) = 2 ^ 16 by decide, ← Nat.pow_mul, ← Nat.pow_add, Nat.add_comm r]
/-- What the product's inner loop keeps. -/
def MulInv (la lb : List Nat) (i k c : Nat) (o : List Nat) : Prop := o.length = la.length + lb.length ∧ Vb o + c * 65536 ^ (i + k) = Vb (la.take i) * Vb lb + la.getD i 0 * Vb (lb.take k) * 65536 ^ i ∧ (∀ d ∈ o, d < 65536) ∧ (∀ j, i + lb.length ≤ j → o.getD j 0 = 0) ∧ c < 65536
def MulOut (la lb : List Nat) (i : Nat) (o : List Nat) : Prop := o.length = la.length + lb.length ∧ Vb o = Vb (la.take i) * Vb lb ∧ (∀ d ∈ o, d < 65536) ∧ ∀ j, i + lb.length ≤ j → o.getD j 0 = 0
theorem mul_start (la lb : List Nat) : MulOut la lb 0 (List.replicate (la.length + lb.length) 0) := by
  have hz : ∀ n j : Nat, (List.replicate n 0).getD j 0 = 0 := fun n j => by
    rcases Nat.lt_or_ge j n with h | h
    · rw [gd_lt (by simpa using h)]; simp
    · rw [gd_ge (by simpa using h)]
  refine ⟨by simp, by rw [Vb_zeros]; simp [Vb], fun d hd => ?_, fun j _ => hz _ j⟩
  rw [List.eq_of_mem_replicate hd]; decide
theorem MulOut.inner {la lb o : List Nat} {i : Nat} (h : MulOut la lb i o) : MulInv la lb i 0 0 o :=
  ⟨h.1, by rw [h.2.1]; simp [Vb], h.2.2.1, h.2.2.2, by decide⟩
theorem mul_fit {c g x y : Nat} (hc : c < 65536) (hg : g < 65536) (hx : x < 65536) (hy : y < 65536) : c + (g + x * y) < 4294967296 ∧ (c + (g + x * y)) / 65536 < 65536 := by
  have : x * y ≤ 65535 * 65535 := Nat.mul_le_mul (by omega) (by omega)
  omega
theorem mul_step {la lb o : List Nat} {i k c : Nat} (hb : ∀ d ∈ lb, d < 65536) (ha : ∀ d ∈ la, d < 65536) (hi : i < la.length) (hk : k < lb.length) (h : MulInv la lb i k c o) :
    MulInv la lb i (k + 1) ((c + (o.getD (i + k) 0 + la.getD i 0 * lb.getD k 0)) / 65536) (o.set (i + k) ((c + (o.getD (i + k) 0 + la.getD i 0 * lb.getD k 0)) % 65536)) := by
  obtain ⟨h1, h2, h3, h4, h5⟩ := h
  have hx := dig_lt ha i
  have hy := dig_lt hb k
  have hg := dig_lt h3 (i + k)
  have hf := mul_fit h5 hg hx hy
  have s1 := Vb_set (l := o) (i := i + k) ((c + (o.getD (i + k) 0 + la.getD i 0 * lb.getD k 0)) % 65536) (by omega)
  refine ⟨by simp [h1], ?_, set_dig h3 (Nat.mod_lt _ (by decide)), fun j hj => by rw [set_gd (by omega)]; exact h4 j hj, hf.2⟩
  rw [Vb_take_succ]
  generalize la.getD i 0 = x at *
  generalize lb.getD k 0 = y at *
  generalize o.getD (i + k) 0 = g at *
  have hm := Nat.mod_add_div (c + (g + x * y)) 65536
  generalize (c + (g + x * y)) % 65536 = m at *
  generalize (c + (g + x * y)) / 65536 = d at *
  generalize Vb (o.set (i + k) m) = V1 at *
  rw [← Nat.add_assoc, Nat.pow_succ]
  rw [Nat.pow_add] at s1 h2 ⊢
  generalize 65536 ^ i = P at *
  generalize 65536 ^ k = Q at *
  generalize Vb (la.take i) * Vb lb = T at *
  generalize Vb (lb.take k) = U at *
  have e1 : x * (U + y * Q) * P = x * U * P + (x * y) * (P * Q) := by grind
  have e2 : (m + 65536 * d) * (P * Q) = m * (P * Q) + d * (P * Q * 65536) := by grind
  have e3 : (c + (g + x * y)) * (P * Q) = c * (P * Q) + g * (P * Q) + (x * y) * (P * Q) := by grind
  rw [hm, e3] at e2
  rw [e1]
  omega
theorem mul_close {la lb o : List Nat} {i c : Nat} (hi : i < la.length) (h : MulInv la lb i lb.length c o) : MulOut la lb (i + 1) (o.set (i + lb.length) c) := by
  obtain ⟨h1, h2, h3, h4, h5⟩ := h
  have s1 := Vb_set (l := o) (i := i + lb.length) c (by omega)
  rw [h4 _ (Nat.le_refl _)] at s1
  refine ⟨by simp [h1], ?_, set_dig h3 h5, fun j hj => by rw [set_gd (by omega)]; exact h4 j (by omega)⟩
  rw [Vb_take_succ]
  rw [List.take_length] at h2
  generalize Vb (o.set (i + lb.length) c) = V1 at *
  have e : (Vb (la.take i) + la.getD i 0 * 65536 ^ i) * Vb lb = Vb (la.take i) * Vb lb + la.getD i 0 * Vb lb * 65536 ^ i := by grind
  rw [e]; omega
/-- Division by a digit, from the top. -/
def DivInv (la : List Nat) (d i rest : Nat) (o : List Nat) : Prop := o.length = la.length ∧ Vb (o.drop i) * d + rest = Vb (la.drop i) ∧ rest < d ∧ ∀ e ∈ o, e < 65536
theorem div_start (la : List Nat) {d : Nat} (hd : 0 < d) : DivInv la d la.length 0 (List.replicate la.length 0) := by
  refine ⟨by simp, ?_, hd, fun e he => ?_⟩
  · rw [List.drop_of_length_le (by simp), List.drop_of_length_le (by simp)]; simp [Vb]
  · rw [List.eq_of_mem_replicate he]; decide
theorem div_fit {d r x : Nat} (hr : r < d) (hx : x < 65536) : (r * 65536 + x) / d < 65536 := by
  rw [Nat.div_lt_iff_lt_mul (by omega)]
  have : (r + 1) * 65536 ≤ d * 65536 := Nat.mul_le_mul_right _ hr
  omega
theorem drop_set_ge {l : List Nat} {i j v : Nat} (h : i < j) : (l.set i v).drop j = l.drop j := by
  apply List.ext_getElem?
  intro k
  rw [List.getElem?_drop, List.getElem?_drop, List.getElem?_set_ne (by omega)]
theorem div_step {la o : List Nat} {d i rest : Nat} (ha : ∀ e ∈ la, e < 65536) (hi : i < la.length) (h : DivInv la d (i + 1) rest o) :
    DivInv la d i ((rest * 65536 + la.getD i 0) % d) (o.set i ((rest * 65536 + la.getD i 0) / d)) := by
  obtain ⟨h1, h2, h3, h4⟩ := h
  have hx := dig_lt ha i
  refine ⟨by simp [h1], ?_, Nat.mod_lt _ (by omega), set_dig h4 (div_fit h3 hx)⟩
  rw [Vb_drop (i := i) (by simp; omega), set_gd_same (by omega), drop_set_ge (by omega), Vb_drop hi, ← h2]
  have hm := Nat.mod_add_div (rest * 65536 + la.getD i 0) d
  generalize (rest * 65536 + la.getD i 0) % d = m at *
  generalize (rest * 65536 + la.getD i 0) / d = q at *
  grind
theorem div_end {la o : List Nat} {d rest : Nat} (h : DivInv la d 0 rest o) : Vb o = Vb la / d ∧ rest = Vb la % d := by
  obtain ⟨h1, h2, h3, h4⟩ := h
  simp only [List.drop_zero] at h2
  have h5 : 0 < d := by omega
  rw [← h2]
  constructor
  · rw [Nat.mul_comm, Nat.mul_add_div h5, Nat.div_eq_of_lt h3]; rfl
  · rw [Nat.mul_comm, Nat.mul_add_mod, Nat.mod_eq_of_lt h3]
/-- One's own list of ints, new since w0, free to be written. -/
structure Ob (w0 w : World) (b : Nat) (l : List Nat) : Prop where
  chg : Chg No w0 w
  new : w0.heap.size ≤ b
  plain : Plain w b
  cell : ∀ i, i < l.length → w.cell? ⟨b, i, none⟩ = some (.int .i64 (l.getD i 0 : Nat))
theorem Ob.set {w0 w : World} {b : Nat} {l : List Nat} (h : Ob w0 w b l) {i : Nat} (n : Nat) (hi : i < l.length) : Ob w0 (w.setCell ⟨b, i, none⟩ (.int .i64 (n : Nat))) b (l.set i n) := by
  obtain ⟨h1, h2, h3, h4⟩ := h
  refine ⟨h1.setO (S := No) _ (h4 i hi) (by simp) (by simp) (fun hb => by omega), h2, h3.setCell _ _, fun j hj => ?_⟩
  have hj' : j < l.length := by simpa using hj
  by_cases e : j = i
  · subst e
    rw [World.cell?_setCell_same _ _ _ (h4 j hj'), set_gd_same hj']
  · rw [cell_setCell_ne _ _ _ _ _ _ (.inr e), set_gd e]; exact h4 j hj'
theorem Ob.sl {w0 w : World} {b c : Nat} {l : List Nat} (h : Ob w0 w b l) (hc : l.length ≤ c) : Sl w (.slice (some ⟨b, 0, none⟩) l.length c) (ints l) := by
  have e : (ints l).length = l.length := ints_length l
  refine ⟨_, c, by rw [e], by rw [e]; exact hc, fun i hi => ⟨_, rfl, ?_⟩⟩
  rw [add0, ints_get]; exact h.cell i (by rw [← e]; exact hi)
theorem Ob.free {w0 w : World} {b : Nat} {l : List Nat} (h : Ob w0 w b l) (i : Nat) : w.frozen? ⟨b, i, none⟩ = false := h.plain.free i
/-- 'make' of ints. -/
theorem wpList_makeI {P : Program} {w0 w : World} {ops : Array Oper} {rest : List Oper} {o : Oper} {a : Act} {Q : Exit → Act → World → Prop} (hgd : o.guard = none) (l : Operand) (t : TypeId) (hop : o.op = Op.makeSlice t l l)
    (e : TypeId) (i : TypeInfo) (h1 : P.underlying t = some (.slice e)) (h2 : P.info? e = some i) (h3 : i.zero = some (.int .i64 0)) (h4 : i.size = 1) (h5 : i.bytes ≤ 8)
    (L : Int) (n : Nat) (hl : a.eval l = .int .i64 L) (hL : L = (n : Int)) (hm : n < 35184372088832) (h0 : Chg No w0 w)
    (h : ∀ w', Ob w0 w' w.heap.size (List.replicate n 0) → wpList P ops Q rest (a.put o.dst (.slice (some ⟨w.heap.size, 0, none⟩) n n)) w') : wpList P ops Q (o :: rest) a w := by
  refine wpList_plain hgd fun K hK => ?_
  subst hL
  have hb : (i.bytes : Int) * (n : Int) ≤ 281474976710656 := by
    have h1 : i.bytes * n ≤ 8 * n := Nat.mul_le_mul_right _ h5
    have h2 : ((i.bytes * n : Nat) : Int) ≤ ((8 * n : Nat) : Int) := by omega
    rw [Int.natCast_mul] at h2
    omega
  have hrun := run_make (P := P) w t e i (.int .i64 0) h1 h2 h3 .i64 .i64 n n (by omega) (by omega) hb (by omega)
  simp only [Int.toNat_natCast] at hrun
  rw [h4, Nat.mul_one] at hrun
  have hcell : ∀ i, i < n → (w.alloc (.cells (madeCells (Value.int .i64 0).cells n) e)).cell? ⟨w.heap.size, i, none⟩ = some (.int .i64 ((0 : Nat) : Int)) := by
    intro i hi
    rw [World.cell?_alloc_new]
    simp [madeCells, Value.cells, hi, Nat.mod_one]
  unfold Oper.wp
  simp [execOp, hop, hl, hrun, Result.andThen]
  refine hK _ _ (h _ ⟨h0.alloc _, h0.size, Plain.new _ _ _, fun i hi => ?_⟩)
  rw [List.length_replicate] at hi
  rw [hcell i hi, gd_lt (by simpa using hi)]; simp
/-- A list of ints that one reads. -/
def Rl (w : World) (A : Option Addr) (l : List Nat) : Prop := ∀ i, i < l.length → ∃ ad, A = some ad ∧ w.cell? (ad.add i) = some (.int .i64 (l.getD i 0 : Nat))
theorem Rl.chg {w w' : World} {A : Option Addr} {l : List Nat} (h : Rl w A l) (hc : Chg No w w') : Rl w' A l := fun i hi => by
  obtain ⟨ad, e, hh⟩ := h i hi
  exact ⟨ad, e, hc.cellA hh⟩
theorem Sn.view {w : World} {v : Value} {X : Nat} (h : Sn w v X) : ∃ l A c, v = .slice A l.length c ∧ l.length ≤ c ∧ Rl w A l ∧ Vb l = X ∧ (∀ d ∈ l, d < 65536) ∧ Top l := by
  obtain ⟨l, ⟨A, c, e, hle, hr⟩, h2, h3, h4⟩ := h
  have el := ints_length l
  refine ⟨l, A, c, by rw [e, el], by rw [← el]; exact hle, fun i hi => ?_, h2, h3, h4⟩
  obtain ⟨ad, e1, e2⟩ := hr i (by rw [el]; exact hi)
  exact ⟨ad, e1, by rw [e2, ints_get]⟩
/-- A number that has been told; nothing old has changed. -/
def SnOut (X : Nat) (w : World) (e : Ending) (w' : World) : Prop := ∃ r, e = .returned r ∧ Sn w' r X ∧ Chg No w w'
theorem txt_append (l m : List Nat) : txt l ++ txt m = txt (l ++ m) := by
  apply ByteArray.ext
  simp [txt]
theorem txt_size (l : List Nat) : (txt l).size = l.length := by simp [txt, ByteArray.size]
theorem txt_extract (l : List Nat) (i j : Nat) : (txt l).extract i j = txt ((l.take j).drop i) := by
  apply ByteArray.ext
  simp [txt, List.map_drop, List.map_take, List.drop_take]
/-- The figures of X that stand below a. -/
def DgInv (X a : Nat) (s : List Nat) : Prop := X = a * 10 ^ s.length + Nd s ∧ (∀ d ∈ s, d < 10) ∧ (a = 0 → s.getD 0 0 ≠ 0)
theorem dg_start {X : Nat} (h : X ≠ 0) : DgInv X X [] := ⟨by simp [Nd], by simp, fun e => absurd e h⟩
theorem dg_step {X a : Nat} {s : List Nat} (ha : a ≠ 0) (h : DgInv X a s) : DgInv X (a / 10) (a % 10 :: s) := by
  obtain ⟨h1, h2, h3⟩ := h
  refine ⟨?_, fun d hd => ?_, fun e => ?_⟩
  · rw [Nd_cons, List.length_cons, Nat.pow_succ, h1]
    have := Nat.mod_add_div a 10
    generalize a % 10 = r at *
    generalize a / 10 = q at *
    subst this
    grind
  · rcases List.mem_cons.1 hd with rfl | hd
    · omega
    · exact h2 d hd
  · simp; omega
theorem dg_end {X : Nat} {s : List Nat} (h : DgInv X 0 s) : FigLen X s.length 0 ∧ s = digs X s.length := by
  obtain ⟨h1, h2, h3⟩ := h
  simp at h1
  have h4 := h3 rfl
  have h5 : 0 < s.length := by
    rcases Nat.eq_zero_or_pos s.length with h | h
    · rw [List.length_eq_zero_iff] at h; subst h; simp at h4
    · exact h
  subst h1
  exact ⟨⟨Nd_lt s h2, h5, .inr (Nd_ge h5 h4)⟩, digs_of s h2⟩
theorem figLen_unique {T D D' k : Nat} (h : FigLen T D k) (h' : FigLen T D' k) : D = D' := by
  obtain ⟨a1, a2, a3⟩ := h
  obtain ⟨b1, b2, b3⟩ := h'
  rcases Nat.lt_trichotomy D D' with hl | hl | hl
  · have h1 : 10 ^ D ≤ 10 ^ (D' - 1) := Nat.pow_le_pow_right (by decide) (by omega)
    omega
  · exact hl
  · have h1 : 10 ^ D' ≤ 10 ^ (D - 1) := Nat.pow_le_pow_right (by decide) (by omega)
    omega
theorem digs_zero {T D : Nat} (h : T < 10 ^ D) : 0 :: digs T D = digs T (D + 1) := by
  have h1 := digs_of (0 :: digs T D) (fun d hd => by
    rcases List.mem_cons.1 hd with rfl | hd
    · decide
    · exact digs_lt D T d hd)
  rw [Nd_cons, Nd_digs, Nat.mod_eq_of_lt h, List.length_cons, digs_length] at h1
  simpa using h1
theorem figLen_wide {T D k : Nat} (h : FigLen T D 0) (hk : k < D) : FigLen T D k := by
  obtain ⟨h1, h2, h3⟩ := h
  exact ⟨h1, hk, h3.elim (fun e => .inl (by omega)) .inr⟩
/-- The long division's state, j bits left. -/
def LongInv (A B j q a : Nat) : Prop := A = q * B + a ∧ a < B * 2 ^ j
theorem long_start {A B : Nat} (hA : A ≠ 0) (hB : B ≠ 0) {j : Nat} (hj : (j : Int) = max (blen A - (blen B : Int) + 1) 0) : LongInv A B j 0 A := by
  obtain ⟨a1, a2, a3⟩ := blen_spec hA
  obtain ⟨b1, b2, b3⟩ := blen_spec hB
  refine ⟨by simp, ?_⟩
  have h1 : 2 ^ (blen B - 1) * 2 ^ j ≤ B * 2 ^ j := Nat.mul_le_mul_right _ (by omega)
  rw [← Nat.pow_add] at h1
  have h2 : 2 ^ blen A ≤ 2 ^ (blen B - 1 + j) := Nat.pow_le_pow_right (by decide) (by clear a2 a3 b2 b3 h1; omega)
  omega
theorem long_yes {A B j q a : Nat} (h : LongInv A B (j + 1) q a) (hle : B * 2 ^ j ≤ a) : LongInv A B j (q + 2 ^ j) (a - B * 2 ^ j) := by
  obtain ⟨h1, h2⟩ := h
  rw [Nat.pow_succ, ← Nat.mul_assoc] at h2
  refine ⟨?_, by omega⟩
  rw [h1, Nat.add_mul, Nat.mul_comm (2 ^ j) B]; omega
theorem long_no {A B j q a : Nat} (h : LongInv A B (j + 1) q a) (hle : ¬ B * 2 ^ j ≤ a) : LongInv A B j q a := ⟨h.1, by omega⟩
theorem long_end {A B q a : Nat} (h : LongInv A B 0 q a) : q = A / B ∧ a = A % B := by
  obtain ⟨h1, h2⟩ := h
  simp at h2
  subst h1
  constructor
  · rw [Nat.mul_comm, Nat.mul_add_div (by omega), Nat.div_eq_of_lt h2]; rfl
  · rw [Nat.mul_comm, Nat.mul_add_mod, Nat.mod_eq_of_lt h2]
end Go.Proofs.YtacfhndledcmgaaGreatDoor
