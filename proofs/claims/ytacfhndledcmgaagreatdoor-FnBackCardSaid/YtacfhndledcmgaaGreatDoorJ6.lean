/- Lemmas for the law FnBack: impl.Text, numbers of the specification. Conditions: those in each theorem; none besides. -/
import Derived.Test.YtacfhndledcmgaaGreatDoorJ5
import Derived.Laws.IdiomStrings
set_option linter.unusedVariables false
set_option linter.unusedSimpArgs false
namespace Go.Proofs.YtacfhndledcmgaaGreatDoor
open Go.RowKit
/-- The bytes of a list, as text. -/
def txt (l : List Nat) : ByteArray := ⟨(l.map UInt8.ofNat).toArray⟩
theorem conv_txt (b o c : Nat) (l : List Nat) (w : World) (h : Ls .u8 256 w (.slice (some ⟨b, o, none⟩) l.length c) l) : (convert 56 9 (.slice (some ⟨b, o, none⟩) l.length c)).run Tryz.prog w = .ok (.string (txt l)) w := by
  have hlen : (l.map UInt8.ofNat).length = l.length := by simp
  have hm := h.mem
  have := run_convert_bytes_back (P := Tryz.prog) w 56 9 5 ⟨b, o, none⟩ c (l.map UInt8.ofNat) Tryz.underlying56 Tryz.underlying5 Tryz.underlying9 (fun j hj => by
    have hj' : j < l.length := by rwa [hlen] at hj
    have e1 : (⟨b, o, none⟩ : Addr).add j = ⟨b, o + j, none⟩ := by unfold Addr.add; split <;> simp_all
    rw [e1]
    rcases h with ⟨h, _⟩ | ⟨b', o', c', he, hn, hv⟩
    · cases h
    · cases he
      rw [(hn.isI j (by have := hn.le; omega)).cell, hv j hj', List.getElem_map]
      have := hm l[j] (List.getElem_mem hj')
      have e2 : (UInt8.ofNat l[j]).toNat = l[j] := by simp [UInt8.toNat_ofNat']; omega
      rw [e2])
  rw [hlen] at this
  exact this
/-- A text of R is told; nothing old has changed. -/
def TextOut (R : List Nat → Prop) (w : World) (e : Ending) (w' : World) : Prop := ∃ l, R l ∧ e = .returned (.string (txt l)) ∧ Chg No w w'
/-- A slice that reads as a list of values, each in one cell. -/
def Sl (w : World) (v : Value) (vs : List Value) : Prop := ∃ A c, v = .slice A vs.length c ∧ vs.length ≤ c ∧ ∀ i (h : i < vs.length), ∃ ad, A = some ad ∧ w.cell? (ad.add i) = some vs[i]
theorem Sl.chg {w w' : World} {v : Value} {vs : List Value} (h : Sl w v vs) (hc : Chg No w w') : Sl w' v vs := by
  obtain ⟨A, c, e, hle, h⟩ := h
  refine ⟨A, c, e, hle, fun i hi => ?_⟩
  obtain ⟨ad, e, hh⟩ := h i hi
  exact ⟨ad, e, hc.cellA hh⟩
def ints (l : List Nat) : List Value := l.map fun n : Nat => Value.int .i64 n
theorem ints_length (l : List Nat) : (ints l).length = l.length := by simp [ints]
theorem ints_get {l : List Nat} {i : Nat} (h : i < (ints l).length) : (ints l)[i] = .int .i64 (l.getD i 0 : Nat) := by
  rw [ints_length] at h
  rw [gd_lt h]; simp [ints]
/-- The number of a list of digits to the base 65536, the lowest first. -/
def Vb : List Nat → Nat
  | [] => 0
  | d :: l => d + 65536 * Vb l
theorem Vb_append (l m : List Nat) : Vb (l ++ m) = Vb l + 65536 ^ l.length * Vb m := by
  induction l with
  | nil => simp [Vb]
  | cons d l ih => simp only [List.cons_append, Vb, ih, List.length_cons, Nat.pow_succ]; grind
theorem Vb_snoc (l : List Nat) (d : Nat) : Vb (l ++ [d]) = Vb l + d * 65536 ^ l.length := by
  rw [Vb_append]; simp [Vb]; grind
/-- Digits of a spec.Nat: the last one is not 0. -/
def Top (l : List Nat) : Prop := l.length = 0 ∨ l.getD (l.length - 1) 0 ≠ 0
/-- A spec.Nat of the value X. -/
def SnL (w : World) (v : Value) (l : List Nat) (X : Nat) : Prop := Sl w v (ints l) ∧ Vb l = X ∧ (∀ d ∈ l, d < 65536) ∧ Top l
def Sn (w : World) (v : Value) (X : Nat) : Prop := ∃ l, SnL w v l X
theorem Sn.chg {w w' : World} {v : Value} {X : Nat} (h : Sn w v X) (hc : Chg No w w') : Sn w' v X := by
  obtain ⟨l, h1, h2⟩ := h
  exact ⟨l, h1.chg hc, h2⟩
theorem Vb_lt {l : List Nat} (h : ∀ d ∈ l, d < 65536) : Vb l < 65536 ^ l.length := by
  induction l with
  | nil => simp [Vb]
  | cons d l ih =>
    have h1 := h d (by simp)
    have h2 := ih fun e he => h e (by simp [he])
    simp only [Vb, List.length_cons, Nat.pow_succ]
    omega
theorem Vb_ge {l : List Nat} (h : Top l) (h0 : 0 < l.length) : 65536 ^ (l.length - 1) ≤ Vb l := by
  have hn := h.resolve_left (by omega)
  obtain ⟨l', d, rfl⟩ : ∃ l' d, l = l' ++ [d] := by
    have hne : l ≠ [] := by intro e; subst e; simp at h0
    exact ⟨l.dropLast, l.getLast hne, (List.dropLast_concat_getLast hne).symm⟩
  rw [Vb_snoc]
  rw [List.length_append, List.length_singleton, Nat.add_sub_cancel, gd_lt (by simp)] at hn
  simp at hn ⊢
  have : 1 * 65536 ^ l'.length ≤ d * 65536 ^ l'.length := Nat.mul_le_mul_right _ (by omega)
  omega
/-- The digits of a number by its bound. -/
theorem Sn_len {l : List Nat} {n : Nat} (h : Top l) (hX : Vb l < 65536 ^ n) : l.length ≤ n := by
  rcases Nat.lt_or_ge n l.length with hlt | hge
  · exfalso
    have h1 := Vb_ge h (by omega)
    have h2 := Nat.pow_le_pow_right (n := 65536) (by decide) (show n ≤ l.length - 1 by omega)
    omega
  · exact hge
/-- Zeros at the end say nothing. -/
theorem Vb_cut {l : List Nat} {k : Nat} (h : TrimAt l k) : Vb (l.take k) = Vb l := by
  obtain ⟨h1, h2, -⟩ := h
  have key : ∀ m : List Nat, (∀ j, m.getD j 0 = 0) → Vb m = 0 := by
    intro m
    induction m with
    | nil => intro _; rfl
    | cons d m ih =>
      intro hm
      have a1 := hm 0
      have a2 := ih fun j => by have := hm (j + 1); simpa using this
      simp at a1
      simp [Vb, a1, a2]
  have e := List.take_append_drop k l
  have : Vb l = Vb (l.take k) + 65536 ^ (l.take k).length * Vb (l.drop k) := by rw [← Vb_append, e]
  rw [this, key (l.drop k) fun j => by
    have := h2 (k + j) (by omega)
    simpa using this]
  simp
theorem Top_cut {l : List Nat} {k : Nat} (h : TrimAt l k) : Top (l.take k) := by
  obtain ⟨h1, h2, h3⟩ := h
  have hl : (l.take k).length = k := by rw [List.length_take]; omega
  unfold Top
  rw [hl]
  rcases h3 with h3 | h3
  · exact .inl h3
  · by_cases hk : k = 0
    · exact .inl hk
    · right
      rw [gd_lt (by rw [hl]; omega), List.getElem_take, ← gd_lt (by omega)]; exact h3
theorem Sl.take {w : World} {A : Option Addr} {c k : Nat} {vs : List Value} (h : ∀ i (h : i < vs.length), ∃ ad, A = some ad ∧ w.cell? (ad.add i) = some vs[i]) (hk : k ≤ vs.length) (hc : vs.length ≤ c) : Sl w (.slice A k c) (vs.take k) := by
  have hl : (vs.take k).length = k := by rw [List.length_take]; omega
  refine ⟨A, c, by rw [hl], by omega, fun i hi => ?_⟩
  obtain ⟨ad, e, hh⟩ := h i (by omega)
  exact ⟨ad, e, by rw [hh, List.getElem_take]⟩
set_option maxRecDepth 100000 in
set_option maxHeartbeats 1000000 in
theorem spec_trim (v : Value) (l : List Nat) (w : World) (h : Sl w v (ints l)) (hb : ∀ d ∈ l, d < 65536) (hl : l.length < 1048576) :
    Calls Tryz.prog 67 #[v] w fun e w' => ∃ r, e = .returned r ∧ Sn w r (Vb l) ∧ w = w' := by
  obtain ⟨A, c, rfl, hle, hcell⟩ := h
  rw [ints_length] at hle
  have hcell' : ∀ i, i < l.length → ∃ ad, A = some ad ∧ w.cell? (ad.add i) = some (.int .i64 (l.getD i 0 : Nat)) := fun i hi => by
    obtain ⟨ad, e, hh⟩ := hcell i (by rw [ints_length]; exact hi)
    exact ⟨ad, e, by rw [hh, ints_get]⟩
  obtain ⟨n, hn⟩ : ∃ n, n = l.length := ⟨_, rfl⟩
  have HT := Lib.hid fun k (hk : TrimAt l k) => (show Sn w (.slice A k c) (Vb l) from
    ⟨l.take k, by have := Sl.take (k := k) hcell (by rw [ints_length]; exact hk.1) (by rw [ints_length]; exact hle); unfold ints at *; rwa [← List.map_take] at this, Vb_cut hk, fun d hd => hb d (List.mem_of_mem_take hd), Top_cut hk⟩)
  rw [ints_length]
  rw [← hn] at hle hl hcell' ⊢
  have HN := Lib.hid hn
  clear hcell hb hn
  go_enter Tryz.func67, Tryz.ntmps67
  go_wp2_with fail
  go_loop [0] (fun v => ∃ k : Nat, k ≤ n ∧ v = .slice A k c ∧ Hid (∀ j, k ≤ j → l.getD j 0 = 0)) (fun v => match v with | .slice _ k _ => k | _ => 0)
  case atStart => exact ⟨n, by omega, rfl, Lib.hid (fun j hj => gd_ge (by rw [← HN.out]; exact hj))⟩
  case round =>
    obtain ⟨k, hk, rfl, hZ⟩ := hrel
    by_cases hk0 : k = 0
    · subst hk0
      go_wp2_with fail
      go_ret
      exact ⟨_, rfl, HT.out 0 ⟨by omega, hZ.out, .inl rfl⟩, rfl⟩
    · obtain ⟨p, rfl⟩ : ∃ p, k = p + 1 := ⟨k - 1, by omega⟩
      have i1 : (0 : Int) < ((p + 1 : Nat) : Int) := by omega
      have i2 : wrap64 (((p + 1 : Nat) : Int) - 1) = (p : Int) := by unfold wrap64; omega
      have i3 : (p : Int) < ((p + 1 : Nat) : Int) := by omega
      have i5 : (p : Int) ≤ c := by omega
      obtain ⟨ad, rfl, hc⟩ := hcell' p (by omega)
      obtain ⟨y, hy⟩ : ∃ y, y = l.getD p 0 := ⟨_, rfl⟩
      rw [← hy] at hc
      by_cases hd : l.getD p 0 = 0
      · have hy0 : y = 0 := by rw [hy, hd]
        subst hy0
        have HD := Lib.hid hd
        clear hd hy
        go_wp2_with fail
        go_round
        case rel =>
          refine ⟨p, by omega, rfl, Lib.hid (fun j h1 => ?_)⟩
          by_cases e : j = p
          · rw [e]; exact HD.out
          · exact hZ.out j (by omega)
        case measure => simp
      · have t1 : ((y : Int) == 0) = false := beq_eq_false_iff_ne.2 (by omega)
        have HD := Lib.hid hd
        clear hd hy
        go_wp2_with fail
        go_ret
        exact ⟨_, rfl, HT.out (p + 1) ⟨by rw [← HN.out]; exact hk, hZ.out, .inr HD.out⟩, rfl⟩
theorem add0 (b j : Nat) : (⟨b, 0, none⟩ : Addr).add j = ⟨b, j, none⟩ := by unfold Addr.add; split <;> simp_all
/-- Neither a word nor a byte. -/
def NoWB (u : Value) : Prop := (∀ n, u ≠ .int .u64 n) ∧ ∀ n, u ≠ .int .u8 n
theorem noWB_int (n : Int) : NoWB (.int .i64 n) := ⟨by simp, by simp⟩
/-- One's own slice under construction. -/
def Gr (w0 w : World) (v : Value) (vs : List Value) : Prop :=
  Chg No w0 w ∧ ∃ b c, v = .slice (some ⟨b, 0, none⟩) vs.length c ∧ vs.length ≤ c ∧ c ≤ maxLen ∧ (w0.heap.size ≤ b ∨ c = 0) ∧ Plain w b ∧ (∀ i (h : i < vs.length), w.cell? ⟨b, i, none⟩ = some vs[i]) ∧ ∀ i, vs.length ≤ i → i < c → ∃ u, w.cell? ⟨b, i, none⟩ = some u ∧ NoWB u
theorem Gr.sl {w0 w : World} {v : Value} {vs : List Value} (h : Gr w0 w v vs) : Sl w v vs := by
  obtain ⟨_, b, c, e, h1, h2, h3, h4, h5, h6⟩ := h
  refine ⟨_, c, e, h1, fun i hi => ⟨_, rfl, ?_⟩⟩
  have e1 : (⟨b, 0, none⟩ : Addr).add i = ⟨b, i, none⟩ := by unfold Addr.add; split <;> simp_all
  rw [e1]; exact h5 i hi
theorem Gr.chg {w0 w w' : World} {v : Value} {vs : List Value} (h : Gr w0 w v vs) (hc : Chg No w w') : Gr w0 w' v vs := by
  obtain ⟨h0, b, c, e, h1, h2, h3, h4, h5, h6⟩ := h
  have hb := h4.lt
  refine ⟨h0.then hc (fun _ _ _ f => f), b, c, e, h1, h2, h3, hc.plain _ h4, fun i hi => (hc.cell _ _ hb (fun f => f)).trans (h5 i hi), fun i a1 a2 => ?_⟩
  obtain ⟨u, hu, hn⟩ := h6 i a1 a2
  exact ⟨u, (hc.cell _ _ hb (fun f => f)).trans hu, hn⟩
/-- An empty one. -/
theorem Gr.start {w0 w : World} (h : Chg No w0 w) (e : TypeId) : Gr w0 (w.alloc (.cells #[] e)) (.slice (some ⟨w.heap.size, 0, none⟩) 0 0) [] :=
  ⟨h.alloc _, w.heap.size, 0, rfl, by simp, by unfold maxLen; omega, .inl h.size, Plain.new _ _ _, fun i hi => absurd hi (by simp), fun i _ hi => absurd hi (by simp)⟩
theorem Src.oneV {P : Program} {tx e' : TypeId} (hk : P.underlying tx = some (.slice e')) (W : World) (v : Value) (hv : v.oneCell' = true) (e : TypeId) :
    Src P 1 tx (.slice (some ⟨W.heap.size, 0, none⟩) 1 1) 1 [v] (W.alloc (.cells #[v] e)) := by
  refine Src.ofSlice _ hk _ 1 1 _ (by simp) (fun j u hj => ?_) (fun u hu => by simp at hu; subst hu; exact hv)
  have e1 : (⟨W.heap.size, 0, none⟩ : Addr).add j = ⟨W.heap.size, j, none⟩ := by unfold Addr.add; split <;> simp_all
  rw [e1, World.cell?_alloc_new]
  cases j with
  | zero => simpa using hj
  | succ j => simp at hj
theorem run_append_gr {P : Program} (w0 w : World) (t ty e : TypeId) (i : TypeInfo) (z0 : Value) (ht : P.underlying t = some (.slice e)) (hi : P.info? e = some i) (hz0 : i.zero = some z0) (hzc : z0.cells = #[z0]) (hzn : NoWB z0) (hs : i.size = 1) (hb : i.bytes ≤ 16)
    (z : Value) (vs : List Value) (hz : Gr w0 w z vs) (u : Value) (hu : u.oneCell' = true) (x : Value) (hsrc : Src P 1 t x 1 [u] w) (hbig : vs.length + 1 ≤ 4294967296) :
    ∃ r w', (Builtin.append_ #[t, t] ty #[z, x]).run P w = .ok r w' ∧ Gr w0 w' r (vs ++ [u]) := by
  obtain ⟨h0, b, c, rfl, h1, h2, h3, h4, h5, h6⟩ := hz
  have hlen : vs.length + 1 = (vs ++ [u]).length := by simp
  have e1 := add0 b
  by_cases hroom : vs.length + 1 ≤ c
  · obtain ⟨u0, hu0, hn0⟩ := h6 vs.length (by omega) (by omega)
    have hr := run_append_room_src (P := P) w t t ty e i ht hi b 0 vs.length c x 1 [u] (by rw [hs]; exact hsrc) hroom
      (fun j hj => by rw [hs]; simp at hj; subst hj; simp [hu0]) (fun j _ => h4.free _)
    rw [hs] at hr
    simp only [Nat.mul_one, Nat.zero_add, World.setCells] at hr
    have h3' : w0.heap.size ≤ b := h3.resolve_right (by omega)
    have hc := h0.setO (S := No) u hu0 hn0.1 hn0.2 (fun hb => by omega)
    refine ⟨_, _, hr, hc, b, c, by rw [← hlen], by rw [← hlen]; exact hroom, h2, h3, h4.setCell _ _, fun j hj => ?_, fun j a1 a2 => ?_⟩
    · rw [← hlen] at hj
      by_cases hj1 : j < vs.length
      · rw [cell_setCell_ne _ _ _ _ _ _ (.inr (by omega)), List.getElem_append_left hj1]; exact h5 j hj1
      · obtain rfl : j = vs.length := by omega
        rw [World.cell?_setCell_same _ _ _ hu0]; simp
    · rw [← hlen] at a1
      rw [cell_setCell_ne _ _ _ _ _ _ (.inr (by omega))]
      exact h6 j (by omega) a2
  · have hfit : Builtin.nextslicecap (vs.length + 1) c * i.bytes ≤ 281474976710656 := by
      have a1 := Nat.mul_le_mul (nextslicecap_le (need := vs.length + 1) (old := c) (by omega)) hb
      omega
    have hfc : (Builtin.firstCells i.size vs.length (.slice (some ⟨b, 0, none⟩) vs.length c)).run P w.drew = .ok vs.toArray w.drew :=
      run_firstCells_some w.drew i.size _ ⟨b, 0, none⟩ _ c _ (by rw [hs]; simp) (fun j v hj => by
        have hjl : j < vs.length := by
          rcases Nat.lt_or_ge j vs.length with h | h
          · exact h
          · rw [List.getElem?_eq_none h] at hj; cases hj
        rw [e1]
        have := h5 j hjl
        rw [List.getElem?_eq_getElem hjl] at hj
        rw [← Option.some.inj hj]; exact this)
    have hr := run_append_grow_src (P := P) w t t ty e i z0 ht hi hz0 (some ⟨b, 0, none⟩) vs.length c _ hfc x 1 [u] (by rw [hs]; exact hsrc) (by omega) (by omega) hfit
    have hge := grownCap_ge w (vs.length + 1) c e
    have hle := grownCap_le_maxLen w (vs.length + 1) c e (by unfold maxLen; omega)
    have hzz : ∀ n : Nat, Builtin.zeroCells z0.cells n = Array.replicate n z0 := by
      intro n
      rw [hzc]
      simp only [Builtin.zeroCells]
      apply Array.ext
      · simp
      · intro j h1 h2
        simp [Nat.mod_one]
    rw [hzz] at hr
    have hcell := fun j => World.cell?_alloc_new w.drew ((vs ++ [u]).toArray ++ Array.replicate (grownCap w (vs.length + 1) c e - (vs.length + 1)) z0) e j
    refine ⟨_, _, hr, (h0.drew).alloc _, w.heap.size, _, by rw [← hlen], by rw [← hlen]; exact hge, hle, .inl h0.size, Plain.new _ _ _, fun j hj => ?_, fun j a1 a2 => ⟨z0, ?_, hzn⟩⟩
    · refine (hcell j).trans ?_
      rw [Array.getElem?_append_left (by simpa using hj)]
      simp [hj]
    · rw [← hlen] at a1
      refine (hcell j).trans ?_
      rw [Array.getElem?_append_right (by simp; omega), Array.getElem?_replicate, if_pos (by simp; omega)]
theorem wpList_append_gr {P : Program} {w0 W : World} {ops : Array Oper} {rest : List Oper} {o : Oper} {a : Act} {Q : Exit → Act → World → Prop} (hgd : o.guard = none) (zo xo : Operand) (t e : TypeId)
    (ho : o.op = .call { callee := .builtin .append, args := #[zo, xo], argTypes := #[t, t] }) (i : TypeInfo) (z0 : Value) (ht : P.underlying t = some (.slice e)) (hi : P.info? e = some i) (hz0 : i.zero = some z0) (hzc : z0.cells = #[z0]) (hzn : NoWB z0) (hs : i.size = 1) (hb : i.bytes ≤ 16)
    (z : Value) (vs : List Value) (hze : a.eval zo = z) (hz : Gr w0 W z vs) (u : Value) (hu : u.oneCell' = true) (e' : TypeId) (hxe : a.eval xo = .slice (some ⟨W.heap.size, 0, none⟩) 1 1) (hbig : vs.length + 1 ≤ 4294967296)
    (h : ∀ r w', Gr w0 w' r (vs ++ [u]) → wpList P ops Q rest (a.put o.dst r) w') : wpList P ops Q (o :: rest) a (W.alloc (.cells #[u] e')) := by
  refine wpList_plain hgd fun K hK => ?_
  obtain ⟨r, w', hrun, happ⟩ := run_append_gr w0 (W.alloc (.cells #[u] e')) t o.type e i z0 ht hi hz0 hzc hzn hs hb z vs (hz.chg ((Chg.refl No W).alloc _)) u hu _ (Src.oneV ht W u hu e') hbig
  unfold Oper.wp
  simp [execOp, ho, resolve, invoke, builtin, hze, hxe, hrun, Result.andThen]
  exact hK _ _ (h r w' happ)
theorem info3 : (Tryz.prog.info? 3).map (fun i => (i.zero, i.size, i.bytes)) = some (some (.int .i64 0), 1, 8) := by kernel_rfl
theorem ints_snoc (l : List Nat) (d : Nat) : ints l ++ [.int .i64 d] = ints (l ++ [d]) := by simp [ints]
theorem Vb_take_succ (l : List Nat) (k : Nat) : Vb (l.take (k + 1)) = Vb (l.take k) + l.getD k 0 * 65536 ^ k := by
  by_cases h : k < l.length
  · rw [List.take_succ_eq_append_getElem h, Vb_snoc, gd_lt h, List.length_take, Nat.min_eq_left (by omega)]
  · rw [gd_ge (by omega), List.take_of_length_le (by omega), List.take_of_length_le (by omega)]; simp
theorem dig_lt {l : List Nat} (h : ∀ d ∈ l, d < 65536) (i : Nat) : l.getD i 0 < 65536 := by
  by_cases hi : i < l.length
  · rw [gd_lt hi]; exact h _ (List.getElem_mem hi)
  · rw [gd_ge (by omega)]; decide
theorem take_lt {l : List Nat} (h : ∀ d ∈ l, d < 65536) {i : Nat} (hi : i ≤ l.length) : Vb (l.take i) < 65536 ^ i := by
  have := Vb_lt (l := l.take i) fun d hd => h d (List.mem_of_mem_take hd)
  rwa [List.length_take, Nat.min_eq_left hi] at this
/-- The four digits of a word. -/
def d16 (x : Nat) : List Nat := [x % 65536, x / 65536 % 65536, x / 4294967296 % 65536, x / 281474976710656 % 65536]
theorem Vb_d16 {x : Nat} (h : x < WB) : Vb (d16 x) = x := by
  unfold WB at h
  simp only [d16, Vb]; omega
theorem d16_lt (x : Nat) : ∀ d ∈ d16 x, d < 65536 := by
  intro d hd
  simp only [d16, List.mem_cons, List.not_mem_nil, or_false] at hd
  rcases hd with rfl | rfl | rfl | rfl <;> exact Nat.mod_lt _ (by decide)
theorem Vl_cons (x : Nat) (l : List Nat) : Vl (x :: l) = x + WB * Vl l := by
  unfold Vl
  rw [List.length_cons, Nat.add_comm l.length 1, V_split]
  simp only [V, Nat.pow_one, Nat.pow_zero, Nat.zero_add, Nat.mul_one, List.getD_cons_zero]
  congr 2
  exact V_congr _ fun i _ => by rw [Nat.add_comm 1 i]; simp
theorem WB_65536 : WB = 65536 ^ 4 := by decide
theorem Vb_words (l : List Nat) (h : ∀ x ∈ l, x < WB) : Vb (l.flatMap d16) = Vl l := by
  induction l with
  | nil => rfl
  | cons x l ih =>
    rw [List.flatMap_cons, Vb_append, Vl_cons, ih fun y hy => h y (by simp [hy]), Vb_d16 (h x (by simp)), WB_65536]
    rfl
theorem words_lt (l : List Nat) : ∀ d ∈ l.flatMap d16, d < 65536 := by
  intro d hd
  obtain ⟨x, _, hx⟩ := List.mem_flatMap.1 hd
  exact d16_lt x d hx
theorem words_len (l : List Nat) : (l.flatMap d16).length = 4 * l.length := by
  induction l with
  | nil => rfl
  | cons x l ih => rw [List.flatMap_cons, List.length_append, ih]; simp [d16]; omega
theorem blen_half {t : Nat} (h : 0 < t) : blen t = blen (t / 2) + 1 := by
  have h0 : t ≠ 0 := by omega
  by_cases h2 : t / 2 = 0
  · have : t = 1 := by omega
    subst this; decide
  · have h3 : blen (t / 2) = Nat.log2 (t / 2) + 1 := by unfold blen; rw [if_neg h2]
    have a1 := Nat.log2_self_le h2
    have a2 := Nat.lt_log2_self (n := t / 2)
    rw [h3]
    apply blen_of
    · rw [Nat.pow_succ]; omega
    · rw [Nat.pow_succ]; omega
theorem blen_Vb {l : List Nat} {n t : Nat} (hl : l.length = n + 1) (hb : ∀ d ∈ l, d < 65536) (ht : t = l.getD n 0) (h0 : t ≠ 0) : blen (Vb l) = 16 * n + blen t := by
  have h1 := take_lt hb (i := n) (by omega)
  have e : Vb l = Vb (l.take n) + t * 65536 ^ n := by
    have := Vb_take_succ l n
    rw [← hl, List.take_length, ← ht] at this
    exact this
  have h3 : blen t = Nat.log2 t + 1 := by unfold blen; rw [if_neg h0]
  have a1 := Nat.log2_self_le h0
  have a2 := Nat.lt_log2_self (n := t)
  have e16 : 65536 ^ n = 2 ^ (16 * n) := by rw [show (65536 : Nat) = 2 ^ 16 by decide, ← Nat.pow_mul]
  rw [e, h3, ← Nat.add_assoc]
  rw [e16] at h1 ⊢
  apply blen_of
  · rw [Nat.pow_add, Nat.mul_comm (2 ^ (16 * n))]
    have := Nat.mul_le_mul_right (2 ^ (16 * n)) a1
    omega
  · rw [Nat.add_assoc, Nat.pow_add, Nat.mul_comm (2 ^ (16 * n))]
    have := Nat.mul_le_mul_right (2 ^ (16 * n)) (show t + 1 ≤ 2 ^ (t.log2 + 1) by omega)
    rw [Nat.add_mul] at this
    omega
/-- A list of ints that one reads. -/
def Rl (w : World) (A : Option Addr) (l : List Nat) : Prop := ∀ i, i < l.length → ∃ ad, A = some ad ∧ w.cell? (ad.add i) = some (.int .i64 (l.getD i 0 : Nat))
theorem Rl.chg {w w' : World} {A : Option Addr} {l : List Nat} (h : Rl w A l) (hc : Chg No w w') : Rl w' A l := fun i hi => by
  obtain ⟨ad, e, hh⟩ := h i hi
  exact ⟨ad, e, hc.cellA hh⟩
theorem Sn.view {w : World} {v : Value} {X : Nat} (h : Sn w v X) : ∃ l A c, v = .slice A l.length c ∧ l.length ≤ c ∧ Rl w A l ∧ Vb l = X ∧ (∀ d ∈ l, d < 65536) ∧ Top l := by
  obtain ⟨l, ⟨A, c, e, hle, hr⟩, h2, h3, h4⟩ := h
  have el := ints_length l
  refine ⟨l, A, c, by rw [e, el], by rw [← el]; exact hle, fun i hi => ?_, h2, h3, h4⟩
  obtain ⟨ad, e1, e2⟩ := hr i (by rw [el]; exact hi)
  exact ⟨ad, e1, by rw [e2, ints_get]⟩
/-- A number that has been told; nothing old has changed. -/
def SnOut (X : Nat) (w : World) (e : Ending) (w' : World) : Prop := ∃ r, e = .returned r ∧ Sn w' r X ∧ Chg No w w'
theorem txt_size (l : List Nat) : (txt l).size = l.length := by simp [txt, ByteArray.size]
end Go.Proofs.YtacfhndledcmgaaGreatDoor
