/- Lemmas for the law FnBack: the plain law: texts that a parse reads back. Conditions: those in each theorem; none besides. -/
import Derived.Test.YtacfhndledcmgaaGreatDoorJ25
import Derived.Test.YtacfhndledcmgaaGreatDoorJ23
import Derived.Test.YtacfhndledcmgaaGreatDoorJ26
import Derived.Test.YtacfhndledcmgaaGreatDoorJ27
import Derived.Test.YtacfhndledcmgaaGreatDoorJ30
import Derived.Test.YtacfhndledcmgaaGreatDoorJ31
import Derived.Test.YtacfhndledcmgaaGreatDoorJ32
set_option linter.unusedVariables false
set_option linter.unusedSimpArgs false
namespace Go.Proofs.YtacfhndledcmgaaGreatDoor
open Go.RowKit
/-- Two functions alike below M read alike. -/
theorem StN_congr {b c0 : Nat} {f g : Nat → Nat} : ∀ {M : Nat}, (∀ j, j < M → f j = g j) → StN b c0 f M = StN b c0 g M
  | 0, _ => rfl
  | M + 1, h => by
    have ih := StN_congr (b := b) (c0 := c0) (f := f) (g := g) (M := M) (fun j hj => h j (by omega))
    unfold StN
    rw [ih, h M (by omega)]
theorem Mnt_congr {b c0 : Nat} {fo : Bool} {f g : Nat → Nat} {M : Nat} (h : ∀ j, j < M → f j = g j) (hm : Mnt b c0 fo f M) : Mnt b c0 fo g M := fun j hj => by
  have h1 := hm j hj
  rw [← h j hj, ← StN_congr (b := b) (c0 := c0) (fun i hi => h i (by omega : i < M))]
  exact h1
theorem hexc_dg {d : Nat} (h : d < 16) : dgv (hexc d) = d ∧ IsDg 16 (hexc d) ∧ hexc d ≠ 46 := by
  have h1 : dgv (hexc d) = d := by unfold dgv hexc; split <;> split <;> omega
  refine ⟨h1, ⟨?_, by rw [h1]; exact h⟩, ?_⟩
  · unfold hexc; split <;> omega
  · unfold hexc; split <;> omega
theorem hex_step (Z K i : Nat) (h : i < K) : (Z / 16 ^ (K - i)) * 16 + Z / 16 ^ (K - 1 - i) % 16 = Z / 16 ^ (K - 1 - i) := by
  rw [show K - i = K - 1 - i + 1 by omega, Nat.pow_succ, ← Nat.div_div_eq_div_mul]
  omega
theorem StN_dt {b c0 : Nat} {ch : Nat → Nat} {j : Nat} (h : ch j = 46) : StN b c0 ch (j + 1) = ((StN b c0 ch j).1, (StN b c0 ch j).2.1, ((StN b c0 ch j).1 : Int)) := by
  show (if ch j = 46 then _ else _) = _
  rw [if_pos h]
theorem StN_fg {b c0 : Nat} {ch : Nat → Nat} {j : Nat} (h : ch j ≠ 46) : StN b c0 ch (j + 1) = ((StN b c0 ch j).1 + 1, (StN b c0 ch j).2.1 * b + dgv (ch j), (StN b c0 ch j).2.2) := by
  show (if ch j = 46 then _ else _) = _
  rw [if_neg h]
/-- The mantissa of format p is read whole. -/
theorem mnt_p {Z K : Nat} {ch : Nat → Nat} (hZ : Z < 16 ^ K) (h0 : ch 0 = 46) (hd : ∀ p, p < K → ch (1 + p) = hexc (Z / 16 ^ (K - 1 - p) % 16)) :
    Mnt 16 0 true ch (1 + K) ∧ StN 16 0 ch (1 + K) = (K, Z, 0) := by
  have key : ∀ i, i ≤ K → StN 16 0 ch (1 + i) = (i, Z / 16 ^ (K - i), 0) := by
    intro i
    induction i with
    | zero => intro _; rw [show (1 + 0 : Nat) = 0 + 1 from rfl, StN_dt h0]; simp [StN, Nat.div_eq_of_lt hZ]
    | succ i ih =>
      intro hi
      obtain ⟨g1, g2, g3⟩ := hexc_dg (Nat.mod_lt (Z / 16 ^ (K - 1 - i)) (by decide : 0 < 16))
      have h1 := hd i (by omega)
      rw [show 1 + (i + 1) = (1 + i) + 1 by omega, StN_fg (by rw [h1]; exact g3), ih (by omega), h1, g1]
      simp only
      rw [hex_step Z K i (by omega), show K - (i + 1) = K - 1 - i by omega]
  refine ⟨fun j hj => ?_, by rw [key K (Nat.le_refl _)]; simp⟩
  rcases Nat.eq_zero_or_pos j with rfl | hj0
  · exact .inl ⟨h0, rfl, rfl⟩
  · obtain ⟨p, rfl⟩ : ∃ p, j = 1 + p := ⟨j - 1, by omega⟩
    obtain ⟨g1, g2, g3⟩ := hexc_dg (Nat.mod_lt (Z / 16 ^ (K - 1 - p)) (by decide : 0 < 16))
    rw [hd p (by omega)]
    exact .inr ⟨g3, g2⟩
/-- The mantissa of format x is read whole. -/
theorem mnt_x1 {ch : Nat → Nat} (h0 : ch 0 = 49) : Mnt 16 0 true ch 1 ∧ StN 16 0 ch 1 = (1, 1, -1) := by
  refine ⟨fun j hj => ?_, ?_⟩
  · obtain rfl : j = 0 := by omega
    rw [h0]; exact .inr ⟨by decide, ⟨.inl ⟨by decide, by decide⟩, by decide⟩⟩
  · rw [show (1 : Nat) = 0 + 1 from rfl, StN_fg (by rw [h0]; decide), h0]; rfl
theorem mnt_x {U D : Nat} {ch : Nat → Nat} (hD : 1 < D) (hU : U / 16 ^ (D - 1) = 1) (h0 : ch 0 = 49) (h1 : ch 1 = 46) (hd : ∀ p, p < D - 1 → ch (2 + p) = hexc (U / 16 ^ (D - 1 - (1 + p)) % 16)) :
    Mnt 16 0 true ch (1 + D) ∧ StN 16 0 ch (1 + D) = (D, U, 1) := by
  obtain ⟨m1, s1⟩ := mnt_x1 h0
  have key : ∀ i, i ≤ D - 1 → StN 16 0 ch (2 + i) = (1 + i, U / 16 ^ (D - 1 - i), 1) := by
    intro i
    induction i with
    | zero => intro _; rw [show (2 + 0 : Nat) = 1 + 1 from rfl, StN_dt h1, s1, Nat.sub_zero, hU]; rfl
    | succ i ih =>
      intro hi
      obtain ⟨g1, g2, g3⟩ := hexc_dg (Nat.mod_lt (U / 16 ^ (D - 1 - (1 + i))) (by decide : 0 < 16))
      have h1 := hd i (by omega)
      have h2 := hex_step U (D - 1) i (by omega)
      rw [show D - 1 - 1 - i = D - 1 - (1 + i) by omega] at h2
      rw [show 2 + (i + 1) = (2 + i) + 1 by omega, StN_fg (by rw [h1]; exact g3), ih (by omega), h1, g1]
      simp only
      rw [h2, show D - 1 - (i + 1) = D - 1 - (1 + i) by omega]; rfl
  refine ⟨fun j hj => ?_, by rw [show 1 + D = 2 + (D - 1) by omega, key (D - 1) (Nat.le_refl _)]; simp; omega⟩
  rcases Nat.lt_or_ge j 1 with hj0 | hj0
  · exact m1 j hj0
  · rcases Nat.eq_or_lt_of_le hj0 with rfl | hj1
    · rw [s1]; exact .inl ⟨h1, rfl, rfl⟩
    · obtain ⟨p, rfl⟩ : ∃ p, j = 2 + p := ⟨j - 2, by omega⟩
      obtain ⟨g1, g2, g3⟩ := hexc_dg (Nat.mod_lt (U / 16 ^ (D - 1 - (1 + p))) (by decide : 0 < 16))
      rw [hd p (by omega)]
      exact .inr ⟨g3, g2⟩
/-- A decimal mantissa without a point is read whole. -/
theorem mnt_b {ds : List Nat} {ch : Nat → Nat} (hd : ∀ d ∈ ds, d < 10) (h : ∀ p, p < ds.length → ch p = 48 + ds.getD p 0) :
    Mnt 10 0 true ch ds.length ∧ StN 10 0 ch ds.length = (ds.length, Nd ds, -1) := by
  have hlt : ∀ p, p < ds.length → ds.getD p 0 < 10 := fun p hp => by
    rw [List.getD_eq_getElem?_getD, List.getElem?_eq_getElem hp]; exact hd _ (List.getElem_mem hp)
  have hv : ∀ d, d < 10 → dgv (48 + d) = d ∧ 48 + d ≠ 46 ∧ IsDg 10 (48 + d) := fun d h => by
    have h1 : dgv (48 + d) = d := by unfold dgv; split <;> omega
    exact ⟨h1, by omega, .inl ⟨by omega, by omega⟩, by rw [h1]; exact h⟩
  have key : ∀ i, i ≤ ds.length → StN 10 0 ch i = (i, Nd (ds.take i), -1) := by
    intro i
    induction i with
    | zero => intro _; simp [StN, Nd]
    | succ i ih =>
      intro hi
      obtain ⟨g1, g2, g3⟩ := hv _ (hlt i (by omega))
      have h1 := h i (by omega)
      rw [StN_fg (by rw [h1]; exact g2), ih (by omega), h1, g1]
      have h2 : ds.take (i + 1) = ds.take i ++ [ds.getD i 0] := by
        rw [List.take_add_one, List.getD_eq_getElem?_getD, List.getElem?_eq_getElem (by omega : i < ds.length)]; rfl
      rw [h2, Nd_snoc, Nat.mul_comm]
  refine ⟨fun j hj => ?_, by rw [key _ (Nat.le_refl _), List.take_length]⟩
  obtain ⟨g1, g2, g3⟩ := hv _ (hlt j hj)
  rw [h j hj]
  exact .inr ⟨g2, g3⟩
/-- The figures of an exponent. -/
theorem nTx_ok : ∀ i, i < 2000 → decV (nTx i) = i ∧ (∀ x ∈ nTx i, 48 ≤ x ∧ x ≤ 57) ∧ nTx i ≠ [] ∧ (nTx i).length ≤ 4 := by decide +kernel
theorem nTx0_ok : ∀ i, i < 2000 → decV ((if i < 10 then [48] else []) ++ nTx i) = i ∧ (∀ x ∈ (if i < 10 then [48] else []) ++ nTx i, 48 ≤ x ∧ x ≤ 57) ∧ (if i < 10 then [48] else []) ++ nTx i ≠ [] ∧ ((if i < 10 then [48] else []) ++ nTx i).length ≤ 5 := by decide +kernel
/-- N times 2 to F is X times 2 to E. -/
def SameVal (N : Nat) (F : Int) (X : Nat) (E : Int) : Prop := ∃ a b : Nat, N * 2 ^ a = X * 2 ^ b ∧ F + (b : Int) = E + (a : Int)
theorem SameVal.odd {N X : Nat} {F E : Int} (h : SameVal N F X E) {T O : Nat} (hN : N = 2 ^ T * O) (hO : O % 2 = 1) : ∀ m k : Nat, X = m * 2 ^ k → m % 2 = 1 → O = m ∧ F + (T : Nat) = E + (k : Nat) := by
  intro m k hX hm
  obtain ⟨a, b, h1, h2⟩ := h
  rw [hN, hX] at h1
  have h3 : 2 ^ (T + a) * O = 2 ^ (k + b) * m := by
    rw [Nat.pow_add, Nat.pow_add, Nat.mul_right_comm, h1, Nat.mul_assoc, Nat.mul_comm m]
  obtain ⟨h4, h5⟩ := pow_odd h3 hO hm
  exact ⟨h5, by omega⟩
/-- What a number that fits its precision leaves of another form of it. -/
theorem SameVal.cut {N X P : Nat} {F E : Int} (h : SameVal N F X E) (hN : N ≠ 0) (hX : X ≠ 0) (hP : blen X ≤ P) : P < blen N → N % 2 ^ (blen N - P) = 0 := by
  intro hlt
  obtain ⟨T, O, hT, hO⟩ := odd_part N hN
  obtain ⟨k, m, hk, hm⟩ := odd_part X hX
  have h1 := (h.odd hT hO m k (by rw [hk, Nat.mul_comm]) hm).1
  subst h1
  have b1 : blen N = T + blen O := by rw [hT]; exact blen_pow (by omega)
  have b2 : blen X = k + blen O := by rw [hk]; exact blen_pow (by omega)
  rw [hT]
  exact Nat.mod_eq_zero_of_dvd (Nat.dvd_trans (Nat.pow_dvd_pow 2 (by rw [← hT]; omega)) (Nat.dvd_mul_right _ _))
/-- Where a text's number begins. -/
def SignAt (n : Bool) (l : List Nat) (j : Nat) : Prop := (n = true ∧ l.getD 0 0 = 45 ∧ j = 1) ∨ (n = false ∧ l.getD 0 0 ≠ 45 ∧ l.getD 0 0 ≠ 43 ∧ j = 0)
/-- A text whose mantissa and exponent the scan reads is parsed whole. -/
theorem parse_with (bs b P M : Nat) (n : Bool) (l : List Nat) (j e1 bb : Nat) (st : Nat × Nat × Int) (v : Int) (eo : Addr) (w : World) (hf : Fl w b P M 0 0 false (.slice none 0 0) 0) (h17b : 17 ≤ b) (hP0 : 0 < P) (hP2 : P < 2000) (hM : M < 6)
    (hl : ∀ x ∈ l, x < 256) (hlen : l.length ≤ 2000) (h0 : 0 < l.length) (hI : NotInf l) (hE : w.cell? ⟨0, 0, none⟩ = some (.iface 245 (.pointer (some eo)))) (hs : SignAt n l j)
    (hsc : ∀ W r, 17 ≤ W.heap.size → W.cell? ⟨0, 0, none⟩ = some (.iface 245 (.pointer (some eo))) → RdAt W r l j → Calls Tryz.prog 89 #[.slice none 0 0, .iface 133 (.pointer (some ⟨r, 0, none⟩)), .int .i64 bs, .bool true] W (ScanOut bb r l e1 st W))
    (hex : ∀ W r, 17 ≤ W.heap.size → W.cell? ⟨0, 0, none⟩ = some (.iface 245 (.pointer (some eo))) → RdAt W r l e1 → Calls Tryz.prog 93 #[.iface 133 (.pointer (some ⟨r, 0, none⟩)), .bool true, .bool (decide (bs = 0))] W (ExpOut r l v 2 W))
    (hbb : bb = 16 ∨ (bb = 10 ∧ st.2.2 < 0)) (hN : st.2.1 ≠ 0) (hNb : blen st.2.1 ≤ 3000) (hd : P < blen st.2.1 → st.2.1 % 2 ^ (blen st.2.1 - P) = 0) (hv1 : -10000 ≤ v) (hv2 : v ≤ 10000) (hst : st.1 ≤ 2001 ∧ -1 ≤ st.2.2 ∧ st.2.2 ≤ st.1) :
    Calls Tryz.prog 82 #[.pointer (some ⟨b, 0, none⟩), .string (txt l), .int .i64 bs] w (PaPost b P M n st.2.1 ((if 0 ≤ st.2.2 then 4 * (st.2.2 - st.1) else 0) + v) bb w) := by
  have hb := hf.lt
  refine float_Parse bs b P M n _ _ l bb eo w hb hl hlen hI hE h17b (fun W hW hR => ?_)
  have hfW := hf.chg hW (fun _ f => f)
  have hEW := eof_chg hE hW (fun f => f)
  have h17W : 17 ≤ W.heap.size := Nat.le_trans (by omega) hW.size
  have hrb : w.heap.size ≠ b := by omega
  refine float_scan bs b P M 0 0 false n 0 w.heap.size l j e1 bb st v W hfW hP0 (by omega) hM ?_ (fun W2 h2 hR2 => hsc W2 _ (Nat.le_trans h17W h2.size) (eof_chg hEW h2 (fun f => by rcases f with f | f <;> omega)) hR2)
    (fun W2 h2 hR2 => hex W2 _ (Nat.le_trans h17W h2.size) (eof_chg hEW h2 (fun f => by rcases f with f | f <;> omega)) hR2) hbb hN hNb hd hv1 hv2 hst hrb h17W
  have hR3 : RdAt (W.setCell ⟨b, 3, none⟩ (.int .u8 0)) w.heap.size l 0 := by
    obtain ⟨⟨g0, g1, p, g2⟩, g3, g4⟩ := hR
    exact ⟨⟨(cell_setCell_ne _ _ _ _ _ _ (.inl hrb)).trans g0, (cell_setCell_ne _ _ _ _ _ _ (.inl hrb)).trans g1, p, (cell_setCell_ne _ _ _ _ _ _ (.inl hrb)).trans g2⟩, g3.setCell _ _, g4⟩
  refine (scan_sign w.heap.size l 0 _ hR3 hl h0 (by omega)).mono ?_
  rintro e w' ⟨sb, sj, rfl, s1, s2, s3, s4, s5⟩
  rcases hs with ⟨rfl, g1, rfl⟩ | ⟨rfl, g1, g2, rfl⟩
  · obtain ⟨rfl, rfl⟩ := s1 g1
    exact ⟨rfl, s4, s5⟩
  · obtain ⟨rfl, rfl⟩ := s3 g1 g2
    exact ⟨rfl, s4, s5⟩
/-- A text that Parse reads as N times 2 to F. -/
def Reads (l : List Nat) (P : Nat) (n : Bool) (N : Nat) (F : Int) (bb : Nat) : Prop :=
  ∀ (M b : Nat) (eo : Addr) (W : World), M < 6 → 17 ≤ b → Fl W b P M 0 0 false (.slice none 0 0) 0 → W.cell? ⟨0, 0, none⟩ = some (.iface 245 (.pointer (some eo))) → Calls Tryz.prog 82 #[.pointer (some ⟨b, 0, none⟩), .string (txt l), .int .i64 0] W (PaPost b P M n N F bb W)
/-- A text that reads back as X times 2 to E. -/
def BackTx (n : Bool) (P X : Nat) (E : Int) (l : List Nat) : Prop := 0 < l.length ∧ ∃ N F bb, Reads l P n N F bb ∧ N ≠ 0 ∧ blen N ≤ 3000 ∧ -9000 ≤ F ∧ F ≤ 9000 ∧ SameVal N F X E
theorem getD_app {l m : List Nat} {i k : Nat} (h : k = l.length + i) : (l ++ m).getD k 0 = m.getD i 0 := by
  subst h
  rw [List.getD_eq_getElem?_getD, List.getD_eq_getElem?_getD, List.getElem?_append_right (by omega)]
  congr 2; omega
theorem getD_appl {l m : List Nat} {i : Nat} (h : i < l.length) : (l ++ m).getD i 0 = l.getD i 0 := by
  rw [List.getD_eq_getElem?_getD, List.getD_eq_getElem?_getD, List.getElem?_append_left h]
theorem signAt_of {n : Bool} {c : Nat} {r : List Nat} (h1 : c ≠ 45) (h2 : c ≠ 43) : SignAt n (sgn n ++ c :: r) (sgn n).length := by
  cases n
  · exact .inr ⟨rfl, h1, h2, rfl⟩
  · exact .inl ⟨rfl, rfl, rfl⟩
theorem sgn_lt (n : Bool) : ∀ x ∈ sgn n, x < 256 := by cases n <;> simp [sgn]
theorem sgn_len (n : Bool) : (sgn n).length ≤ 1 := by cases n <;> simp [sgn]
theorem sg_if (e : Int) : (if 0 ≤ e then ([43] : List Nat) else [45]) = [if decide (e < 0) then 45 else 43] := by
  by_cases h : 0 ≤ e
  · rw [if_pos h, if_neg (by simp; omega)]
  · rw [if_neg h, if_pos (by simp; omega)]
theorem sgI_nat (e : Int) : sgI (decide (e < 0)) e.natAbs = e := by
  unfold sgI
  by_cases h : e < 0
  · rw [if_pos (by simpa using h)]; omega
  · rw [if_neg (by simpa using h)]; omega
/-- A text in base 16 is read. -/
theorem reads16 (n : Bool) (l ms ds : List Nat) (e : Int) (P : Nat) (st : Nat × Nat × Int) (hl : l = sgn n ++ 48 :: 120 :: (ms ++ 112 :: (if decide (e < 0) then 45 else 43) :: ds)) (hms : ∀ x ∈ ms, x < 256) (hds : ∀ x ∈ ds, 48 ≤ x ∧ x ≤ 57) (hd0 : ds ≠ []) (hd6 : ds.length ≤ 6) (hdv : decV ds = e.natAbs)
    (hmlen : ms.length ≤ 1900) (hm0 : 0 < ms.length) (hg : Mnt 16 0 true (fun j => ms.getD j 0) ms.length) (hst : StN 16 0 (fun j => ms.getD j 0) ms.length = st) (hc : 0 < st.1) (hP0 : 0 < P) (hP2 : P < 2000) (he1 : -2000 ≤ e) (he2 : e ≤ 2000)
    (hN : st.2.1 ≠ 0) (hNb : blen st.2.1 ≤ 3000) (hd : P < blen st.2.1 → st.2.1 % 2 ^ (blen st.2.1 - P) = 0) : Reads l P n st.2.1 ((if 0 ≤ st.2.2 then 4 * (st.2.2 - st.1) else 0) + e) 16 := by
  intro M b eo W hM h17 hf hE
  obtain ⟨s0, hs0⟩ : ∃ s0, s0 = (sgn n).length := ⟨_, rfl⟩
  have hs1 : s0 ≤ 1 := by rw [hs0]; exact sgn_len n
  have hdp : 0 < ds.length := List.length_pos_iff.2 hd0
  have hlen : l.length = s0 + 4 + ms.length + ds.length := by rw [hl, hs0]; simp; omega
  have hlt : ∀ x ∈ l, x < 256 := by
    intro x hx
    rw [hl] at hx
    simp only [List.mem_append, List.mem_cons] at hx
    rcases hx with h | rfl | rfl | h | rfl | rfl | h
    · exact sgn_lt n x h
    · decide
    · decide
    · exact hms x h
    · decide
    · split <;> decide
    · have := hds x h; omega
  have g0 : l.getD s0 0 = 48 := by rw [hl, getD_app (i := 0) (by omega)]; rfl
  have g1 : l.getD (s0 + 1) 0 = 120 := by rw [hl, getD_app (i := 1) (by omega)]; rfl
  have gm : ∀ k, l.getD (s0 + 2 + k) 0 = (ms ++ 112 :: (if decide (e < 0) then 45 else 43) :: ds).getD k 0 := fun k => by
    rw [hl, getD_app (i := k + 2) (by omega)]; rfl
  have gms : ∀ k, k < ms.length → ms.getD k 0 = l.getD (s0 + 2 + k) 0 := fun k hk => by rw [gm, getD_appl hk]
  have gp : l.getD (s0 + 2 + ms.length) 0 = 112 := by rw [gm, getD_app (i := 0) (by omega)]; rfl
  have gs : l.getD (s0 + 2 + ms.length + 1) 0 = if decide (e < 0) then 45 else 43 := by rw [Nat.add_assoc, gm, getD_app (i := 1) (by omega)]; rfl
  have hst2 : StN 16 0 (fun j => l.getD (s0 + 2 + j) 0) ms.length = st := by rw [← hst]; exact (StN_congr (fun k hk => gms k hk)).symm
  have hg2 : Mnt 16 0 true (fun j => l.getD (s0 + 2 + j) 0) ms.length := Mnt_congr (fun k hk => gms k hk) hg
  have hdrop : l.drop (s0 + 2 + ms.length + 2) = ds := by
    rw [hl, hs0, List.drop_append, List.drop_eq_nil_of_le (by omega), List.nil_append]
    rw [show (sgn n).length + 2 + ms.length + 2 - (sgn n).length = ms.length + 2 + 2 by omega, List.drop_succ_cons, List.drop_succ_cons, List.drop_append, List.drop_eq_nil_of_le (by omega), List.nil_append, show ms.length + 2 - ms.length = 2 by omega]
    rfl
  have hcnt := StN_cnt 16 0 (fun j => ms.getD j 0) ms.length
  rw [hst] at hcnt
  refine parse_with 0 b P M n l s0 (s0 + 2 + ms.length) 16 st e eo W hf h17 hP0 hP2 hM hlt (by omega) (by omega) ⟨by omega, fun h => by omega⟩ hE ?_ (fun W r h1 h2 h3 => ?_) (fun W r h1 h2 h3 => ?_) (.inl rfl) hN hNb hd (by omega) (by omega) ⟨by omega, hcnt.2.2.1, hcnt.2.2.2⟩
  · rw [hl, hs0]; exact signAt_of (by decide) (by decide)
  · have := nat_scan16 r l s0 ms.length eo W h3 hlt (by omega) h2 g0 g1 (by omega) hg2 (.inr (by rw [gp]; decide)) (by rw [hst2]; exact hc) h1
    rw [hst2] at this
    exact this
  · have := scan_exp (decide (0 = 0)) r l ds (s0 + 2 + ms.length) 112 2 (decide (e < 0)) eo W pi_ok h3 hlt (by omega) h2 gp (.inl ⟨rfl, rfl⟩) gs hdrop hd0 hds hd6 h1
    rw [hdv, sgI_nat] at this
    exact this
/-- A text of a whole number in base 10 and a power of 2 is read. -/
theorem reads10 (n : Bool) (l gs ds : List Nat) (e : Int) (P : Nat) (hl : l = sgn n ++ (asc gs ++ 112 :: (if decide (e < 0) then 45 else 43) :: ds)) (hgs : ∀ x ∈ gs, x < 10) (hds : ∀ x ∈ ds, 48 ≤ x ∧ x ≤ 57) (hd0 : ds ≠ []) (hd6 : ds.length ≤ 6) (hdv : decV ds = e.natAbs)
    (hmlen : gs.length ≤ 1900) (hm0 : 0 < gs.length) (hfst : gs.getD 0 0 ≠ 0) (hP0 : 0 < P) (hP2 : P < 2000) (he1 : -2000 ≤ e) (he2 : e ≤ 2000)
    (hN : Nd gs ≠ 0) (hNb : blen (Nd gs) ≤ 3000) (hd : P < blen (Nd gs) → Nd gs % 2 ^ (blen (Nd gs) - P) = 0) : Reads l P n (Nd gs) e 10 := by
  intro M b eo W hM h17 hf hE
  obtain ⟨s0, hs0⟩ : ∃ s0, s0 = (sgn n).length := ⟨_, rfl⟩
  have hs1 : s0 ≤ 1 := by rw [hs0]; exact sgn_len n
  have hdp : 0 < ds.length := List.length_pos_iff.2 hd0
  have hal := asc_length gs
  have hlen : l.length = s0 + 2 + gs.length + ds.length := by rw [hl, hs0]; simp [hal]; omega
  have hlt : ∀ x ∈ l, x < 256 := by
    intro x hx
    rw [hl] at hx
    simp only [List.mem_append, List.mem_cons] at hx
    rcases hx with h | h | rfl | rfl | h
    · exact sgn_lt n x h
    · exact asc_lt hgs x h
    · decide
    · split <;> decide
    · have := hds x h; omega
  have gm : ∀ k, l.getD (s0 + k) 0 = (asc gs ++ 112 :: (if decide (e < 0) then 45 else 43) :: ds).getD k 0 := fun k => by
    rw [hl, getD_app (i := k) (by omega)]
  have gms : ∀ k, k < gs.length → l.getD (s0 + k) 0 = 48 + gs.getD k 0 := fun k hk => by rw [gm, getD_appl (by omega), asc_getD _ hk]
  have gp : l.getD (s0 + gs.length) 0 = 112 := by rw [gm, getD_app (i := 0) (by omega)]; rfl
  have gs1 : l.getD (s0 + gs.length + 1) 0 = if decide (e < 0) then 45 else 43 := by rw [Nat.add_assoc, gm, getD_app (i := 1) (by omega)]; rfl
  obtain ⟨hg2, hst2⟩ := mnt_b (ch := fun j => l.getD (s0 + j) 0) hgs gms
  have hdrop : l.drop (s0 + gs.length + 2) = ds := by
    rw [hl, hs0, List.drop_append, List.drop_eq_nil_of_le (by omega), List.nil_append]
    rw [show (sgn n).length + gs.length + 2 - (sgn n).length = gs.length + 2 by omega, List.drop_append, List.drop_eq_nil_of_le (by omega), List.nil_append, show gs.length + 2 - (asc gs).length = 2 by omega]
    rfl
  have h48 : l.getD s0 0 ≠ 48 := by have := gms 0 hm0; rw [Nat.add_zero] at this; rw [this]; omega
  have hfl : l.getD s0 0 ≠ 45 ∧ l.getD s0 0 ≠ 43 := by have := gms 0 hm0; rw [Nat.add_zero] at this; rw [this]; omega
  have hsA : SignAt n l s0 := by
    cases n
    · obtain rfl : s0 = 0 := hs0
      exact .inr ⟨rfl, hfl.1, hfl.2, rfl⟩
    · obtain rfl : s0 = 1 := hs0
      exact .inl ⟨rfl, by rw [hl]; rfl, rfl⟩
  have hNI : NotInf l := by
    refine ⟨by omega, fun h4 => ?_⟩
    obtain rfl : s0 = 0 := by omega
    exact ⟨hfl.2, hfl.1⟩
  have e9 : (if (0 : Int) ≤ (-1 : Int) then 4 * ((-1 : Int) - (gs.length : Nat)) else 0) + e = e := by simp
  rw [← e9]
  refine parse_with 0 b P M n l s0 (s0 + gs.length) 10 (gs.length, Nd gs, -1) e eo W hf h17 hP0 hP2 hM hlt (by omega) (by omega) hNI hE hsA (fun W r h1 h2 h3 => ?_) (fun W r h1 h2 h3 => ?_) (.inr ⟨rfl, by show (-1 : Int) < 0; decide⟩) hN hNb hd (by omega) (by omega) ⟨by show gs.length ≤ 2001; omega, by show (-1 : Int) ≤ -1; decide, by show (-1 : Int) ≤ _; omega⟩
  · have := nat_scan10 0 true r l s0 s0 gs.length 0 eo W h3 hlt (by omega) h2 (.inr (.inl ⟨rfl, by omega, h48, rfl, rfl⟩)) (by omega) hg2 (.inr (by rw [gp]; decide)) (by rw [hst2]; exact hm0) h1
    rw [hst2] at this
    exact this
  · have := scan_exp (decide (0 = 0)) r l ds (s0 + gs.length) 112 2 (decide (e < 0)) eo W pi_ok h3 hlt (by omega) h2 gp (.inl ⟨rfl, rfl⟩) gs1 hdrop hd0 hds hd6 h1
    rw [hdv, sgI_nat] at this
    exact this
end Go.Proofs.YtacfhndledcmgaaGreatDoor
