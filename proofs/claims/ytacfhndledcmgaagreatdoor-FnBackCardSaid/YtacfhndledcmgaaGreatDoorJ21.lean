/- Lemmas for the law FnBack: strings.Reader through its interface, the sign, the plain law of a scan. Conditions: those in each theorem; none besides. -/
import Derived.Test.YtacfhndledcmgaaGreatDoorM127
import Derived.Test.YtacfhndledcmgaaGreatDoorJ19
import Derived.Deep.RegionHeld3
import Derived.Test.YtacfhndledcmgaaGreatDoorJ5
set_option linter.unusedVariables false
set_option linter.unusedSimpArgs false
namespace Go.Proofs.YtacfhndledcmgaaGreatDoor
open Go.RowKit
/-- A reader of a text, and how far it has come. -/
def RdAt (w : World) (r : Nat) (l : List Nat) (i : Nat) : Prop :=
  (w.cell? ⟨r, 0, none⟩ = some (.string (txt l)) ∧ w.cell? ⟨r, 1, none⟩ = some (.int .i64 i) ∧ ∃ p : Int, w.cell? ⟨r, 2, none⟩ = some (.int .i64 p)) ∧ Plain w r ∧ 17 ≤ r
theorem RdAt.chg {S : Nat → Nat → Prop} {w w' : World} {r : Nat} {l : List Nat} {i : Nat} (h : RdAt w r l i) (hc : Chg S w w') (hs : ∀ o, ¬ S r o) : RdAt w' r l i := by
  obtain ⟨⟨h0, h1, p, h2⟩, h3, h4⟩ := h
  have hl := h3.lt
  exact ⟨⟨(hc.cell _ _ hl (hs _)).trans h0, (hc.cell _ _ hl (hs _)).trans h1, p, (hc.cell _ _ hl (hs _)).trans h2⟩, hc.plain _ h3, h4⟩
theorem setO_blk {w : World} {b o : Nat} {i : Int} (v : Value) (h : w.cell? ⟨b, o, none⟩ = some (.int .i64 i)) : Chg (Blk b) w (w.setCell ⟨b, o, none⟩ v) :=
  (Chg.refl _ w).setO v h (fun n e => by cases e) (fun n e => by cases e) (fun _ => rfl)
theorem RdAt.set2 {w : World} {r : Nat} {l : List Nat} {i : Nat} (h : RdAt w r l i) (v : Int) : RdAt (w.setCell ⟨r, 2, none⟩ (.int .i64 v)) r l i ∧ Chg (Blk r) w (w.setCell ⟨r, 2, none⟩ (.int .i64 v)) := by
  obtain ⟨⟨h0, h1, p, h2⟩, h3, h4⟩ := h
  exact ⟨⟨⟨(cell_setCell_ne _ _ _ _ _ _ (.inr (by decide))).trans h0, (cell_setCell_ne _ _ _ _ _ _ (.inr (by decide))).trans h1, v, World.cell?_setCell_same _ _ _ h2⟩, h3.setCell _ _, h4⟩, setO_blk _ h2⟩
theorem RdAt.set1 {w : World} {r : Nat} {l : List Nat} {i : Nat} (h : RdAt w r l i) (j : Nat) : RdAt (w.setCell ⟨r, 1, none⟩ (.int .i64 j)) r l j ∧ Chg (Blk r) w (w.setCell ⟨r, 1, none⟩ (.int .i64 j)) := by
  obtain ⟨⟨h0, h1, p, h2⟩, h3, h4⟩ := h
  exact ⟨⟨⟨(cell_setCell_ne _ _ _ _ _ _ (.inr (by decide))).trans h0, World.cell?_setCell_same _ _ _ h1, p, (cell_setCell_ne _ _ _ _ _ _ (.inr (by decide))).trans h2⟩, h3.setCell _ _, h4⟩, setO_blk _ h1⟩
set_option maxRecDepth 100000 in
theorem rdr_read (r : Nat) (l : List Nat) (i : Nat) (w : World) (h : RdAt w r l i) (hl : ∀ x ∈ l, x < 256) (hi : i < l.length) (hn : l.length ≤ 1000000) :
    Calls Tryz.prog 90 #[.pointer (some ⟨r, 0, none⟩)] w fun e w' => e = .returned (.tuple #[.int .u8 (l.getD i 0 : Nat), .nilIface]) ∧ RdAt w' r l (i + 1) ∧ Chg (Blk r) w w' := by
  have hq := h.set2 (-1)
  obtain ⟨⟨h0, h1, p, h2⟩, h3, h4⟩ := h
  have hf := h3.free
  have f2 := hf 2
  have hsz : (txt l).size = l.length := txt_size l
  have HS : Hid (∀ S : ByteArray, S = txt l → ∀ i (h : i < S.size), (S[i]'h).toNat = l.getD i 0) := Lib.hid (by rintro S rfl i h; exact txt_get h hl)
  have HQ := Lib.hid hq
  have i0 : (0 : Int) ≤ (i : Int) := by omega
  have wr1 : IntKind.i64.wrap ((i : Int) + 1) = ((i + 1 : Nat) : Int) := by rw [IntKind.wrap_i64]; omega
  clear hf h3 h0 h1 hl hq
  obtain ⟨S, hS⟩ : ∃ S, S = txt l := ⟨_, rfl⟩
  rw [← hS] at hsz
  have HSS := Lib.hid hS
  have sz1 : ¬ S.size ≤ i := by omega
  have sz2 : i < S.size := by omega
  obtain ⟨g, hg⟩ : ∃ g, g = l.getD i 0 := ⟨_, rfl⟩
  have HI : Hid (∀ h : i < S.size, (S[i]'h).toNat = g) := Lib.hid (by intro h; rw [hg]; exact HS.out S HSS.out i h)
  have hgi := HI.out sz2
  rw [← hg]
  clear hS hsz hg hi hn HS
  go_enter Tryz.func90, Tryz.ntmps90
  go_wp2_with fail
  generalize w.setCell ⟨r, 2, none⟩ (.int .i64 (-1)) = wa at *
  obtain ⟨⟨⟨h0, h1, q, h2b⟩, h3, -⟩, hk⟩ := HQ.out
  rw [← HSS.out] at h0
  go_region_held3 (fun W => W.cell? ⟨r, 0, none⟩ = some (.string S) ∧ W.cell? ⟨r, 1, none⟩ = some (.int .i64 i)) (first | assumption | exact ⟨h0, h1⟩) (fail)
  go_wp2_with fail
  obtain ⟨d0, d1⟩ := ‹_ ∧ _›
  go_region_held3 (fun W => W.cell? ⟨r, 0, none⟩ = some (.string S) ∧ W.cell? ⟨r, 1, none⟩ = some (.int .i64 i)) (first | assumption | exact ⟨d0, d1⟩) (fail)
  have f1 := h3.free 1
  go_wp2_with fail
  go_ret2
  have Q := HQ.out.1.set1 (i + 1)
  exact ⟨rfl, Q.1, hk.then Q.2.drew.drew (fun _ _ _ f => f)⟩
set_option maxRecDepth 100000 in
theorem rdr_eof (r : Nat) (l : List Nat) (V : Value) (w : World) (h : RdAt w r l l.length) (he : w.cell? ⟨0, 0, none⟩ = some V) (hn : l.length ≤ 1000000) :
    Calls Tryz.prog 90 #[.pointer (some ⟨r, 0, none⟩)] w fun e w' => e = .returned (.tuple #[.int .u8 0, V]) ∧ RdAt w' r l l.length ∧ Chg (Blk r) w w' := by
  have hq := h.set2 (-1)
  obtain ⟨⟨h0, h1, p, h2⟩, h3, h4⟩ := h
  have f2 := h3.free 2
  have hsz : (txt l).size = l.length := txt_size l
  have he2 : (w.setCell ⟨r, 2, none⟩ (.int .i64 (-1))).cell? ⟨0, 0, none⟩ = some V := (cell_setCell_ne _ _ _ _ _ _ (.inl (by omega))).trans he
  have HQ := Lib.hid hq
  clear h3 h0 h1 hq
  obtain ⟨S, hS⟩ : ∃ S, S = txt l := ⟨_, rfl⟩
  rw [← hS] at hsz
  have HSS := Lib.hid hS
  obtain ⟨i, hi⟩ : ∃ i, i = l.length := ⟨_, rfl⟩
  rw [← hi] at HQ hsz hn ⊢
  have sz1 : S.size ≤ i := by omega
  clear hS hsz hi hn he
  go_enter Tryz.func90, Tryz.ntmps90
  go_wp2_with fail
  generalize w.setCell ⟨r, 2, none⟩ (.int .i64 (-1)) = wa at *
  obtain ⟨⟨⟨h0, h1, q, h2b⟩, h3, -⟩, hk⟩ := HQ.out
  rw [← HSS.out] at h0
  go_region_held3 (fun W => W.cell? ⟨r, 0, none⟩ = some (.string S) ∧ W.cell? ⟨r, 1, none⟩ = some (.int .i64 i)) (first | assumption | exact ⟨h0, h1⟩) (fail)
  go_wp2_with fail
  have he3 : wa.drew.cell? ⟨0, 0, none⟩ = some V := he2
  go_region_held3 (fun W => W.cell? ⟨0, 0, none⟩ = some V) (first | assumption | exact he3) (fail)
  go_wp2_with fail
  go_ret2
  exact ⟨rfl, HQ.out.1.chg (Chg.refl No wa).drew.drew (fun _ f => f), hk.drew.drew⟩
set_option maxRecDepth 100000 in
theorem rdr_unread (r : Nat) (l : List Nat) (i : Nat) (w : World) (h : RdAt w r l (i + 1)) (hi : i < 1000000) :
    Calls Tryz.prog 356 #[.pointer (some ⟨r, 0, none⟩)] w fun e w' => e = .returned .nilIface ∧ RdAt w' r l i ∧ Chg (Blk r) w w' := by
  have hq := h.set2 (-1)
  obtain ⟨⟨h0, h1, p, h2⟩, h3, h4⟩ := h
  have f2 := h3.free 2
  have f1 := h3.free 1
  have HQ := Lib.hid hq
  have c1 : decide ((((i + 1 : Nat)) : Int) ≤ 0) = false := decide_eq_false (by omega)
  have wr1 : IntKind.i64.wrap (((i + 1 : Nat) : Int) - 1) = (i : Int) := by rw [IntKind.wrap_i64]; omega
  obtain ⟨k, hk⟩ : ∃ k : Nat, k = i + 1 := ⟨_, rfl⟩
  rw [← hk] at HQ h1 c1 wr1
  have c2 : ¬ k ≤ 0 := by omega
  have c3 : ¬ k = 0 := by omega
  clear h3 h0 hq hk hi
  go_enter Tryz.func356, Tryz.ntmps356
  go_wp2_with fail
  go_ret
  have Q := HQ.out.1.set1 i
  exact ⟨rfl, Q.1, HQ.out.2.then Q.2 (fun _ _ _ f => f)⟩
set_option maxRecDepth 100000 in
/-- A new reader. -/
theorem rdr_new (l : List Nat) (w : World) (h17 : 17 ≤ w.heap.size) :
    Calls Tryz.prog 88 #[.string (txt l)] w fun e w' => e = .returned (.pointer (some ⟨w.heap.size, 0, none⟩)) ∧ RdAt w' w.heap.size l 0 ∧ Chg No w w' := by
  have K := (Chg.refl No w).alloc (.cells #[.string (txt l), .int .i64 0, .int .i64 (-1)] 194)
  have R : RdAt (w.alloc (.cells #[.string (txt l), .int .i64 0, .int .i64 (-1)] 194)) w.heap.size l 0 := ⟨⟨World.cell?_alloc_new _ _ _ _, World.cell?_alloc_new _ _ _ _, -1, World.cell?_alloc_new _ _ _ _⟩, Plain.new _ _ _, h17⟩
  go_enter Tryz.func88, Tryz.ntmps88
  go_wp2_with fail
  go_ret
  exact ⟨rfl, R, K⟩
theorem meth_read (v : Value) (w : World) : (method 475 133 v "ReadByte").run Tryz.prog w = .ok (90, v) w := by kernel_rfl
theorem meth_unread (v : Value) (w : World) : (method 475 133 v "UnreadByte").run Tryz.prog w = .ok (356, v) w := by kernel_rfl
/-- What scanSign says at a byte g. -/
def SgOut (g r : Nat) (l : List Nat) (i : Nat) (w : World) (e : Ending) (w' : World) : Prop :=
  ∃ (b : Bool) (j : Nat), e = .returned (.tuple #[.bool b, .nilIface]) ∧ (g = 45 → b = true ∧ j = i + 1) ∧ (g = 43 → b = false ∧ j = i + 1) ∧ (g ≠ 45 → g ≠ 43 → b = false ∧ j = i) ∧ RdAt w' r l j ∧ Chg (Blk r) w w'
set_option maxRecDepth 100000 in
/-- The sign of a text. -/
theorem scan_sign (r : Nat) (l : List Nat) (i : Nat) (w : World) (h : RdAt w r l i) (hl : ∀ x ∈ l, x < 256) (hi : i < l.length) (hn : l.length ≤ 1000000) :
    Calls Tryz.prog 92 #[.iface 133 (.pointer (some ⟨r, 0, none⟩))] w (SgOut (l.getD i 0) r l i w) := by
  have H1 := Lib.hid (rdr_read r l i w h hl hi hn)
  have H2 : Hid (∀ W, RdAt W r l (i + 1) → _) := Lib.hid fun W hW => rdr_unread r l i W hW (by omega)
  have m1 := meth_read (.pointer (some ⟨r, 0, none⟩))
  have m2 := meth_unread (.pointer (some ⟨r, 0, none⟩))
  clear h hl hi hn
  obtain ⟨g, hg⟩ : ∃ g, g = l.getD i 0 := ⟨_, rfl⟩
  rw [← hg] at H1 ⊢
  clear hg
  go_enter Tryz.func92, Tryz.ntmps92
  go_wp2_with fail
  refine H1.out.mono ?_
  rintro e w1 ⟨rfl, hr1, hk1⟩
  by_cases h45 : g = 45
  · subst h45
    go_wp2_with fail
    go_ret2
    exact ⟨true, _, rfl, fun _ => ⟨rfl, rfl⟩, (fun h => by omega), (fun h => by omega), hr1, hk1⟩
  · by_cases h43 : g = 43
    · subst h43
      go_wp2_with fail
      go_ret2
      exact ⟨false, _, rfl, (fun h => by omega), (fun h => ⟨rfl, rfl⟩), (fun _ h => by omega), hr1, hk1⟩
    · have t1 : ((g : Int) == 45) = false := by simp; omega
      have t2 : ((g : Int) == 43) = false := by simp; omega
      go_wp2_with fail
      refine (H2.out w1 hr1).mono ?_
      rintro e w2 ⟨rfl, hr2, hk2⟩
      go_wp2_with fail
      go_ret2
      exact ⟨false, _, rfl, (fun h => by omega), (fun h => by omega), (fun _ _ => ⟨rfl, rfl⟩), hr2, hk1.then hk2 (fun _ _ _ f => f)⟩
theorem and1i' {a : Nat} (h : a < 4294967296) : bits BinOp.and .i64 (a : Int) 1 = ((a % 2 : Nat) : Int) := by
  have h1 : (BitVec.ofInt 64 (a : Int)).toNat = a := by
    rw [BitVec.ofInt_natCast, BitVec.toNat_ofNat]; exact Nat.mod_eq_of_lt (by omega)
  have h2 : (BitVec.ofInt 64 (1 : Int)).toNat = 1 := by decide
  show IntKind.i64.wrap ((BitVec.ofInt 64 (a : Int) &&& BitVec.ofInt 64 (1 : Int)).toNat : Int) = _
  rw [BitVec.toNat_and, h1, h2, show (1 : Nat) = 2 ^ 1 - 1 from rfl, Nat.and_two_pow_sub_one_eq_mod]
  exact IntWalk.i64_in _ (by omega)
theorem pow_step (P X n Q : Nat) (h : P * X ^ n % WB = Q) (h2 : 0 < n) : (if n % 2 = 1 then P * X % WB else P) * (X * X % WB) ^ (n / 2) % WB = Q := by
  rw [← h]
  have e : X ^ n = (if n % 2 = 1 then X else 1) * (X * X) ^ (n / 2) := by
    rw [← Nat.pow_two, ← Nat.pow_mul]
    split
    · next h1 => rw [← Nat.pow_succ']; congr 1; omega
    · next h1 => rw [Nat.one_mul]; congr 1; omega
  rw [e, Nat.mul_mod _ ((X * X % WB) ^ (n / 2)), ← Nat.pow_mod]
  split
  · rw [Nat.mod_mod, ← Nat.mul_mod, Nat.mul_assoc]
  · rw [Nat.one_mul, ← Nat.mul_mod]
set_option maxHeartbeats 1000000 in
/-- A word to a power. -/
theorem pow_ok (x e : Nat) (w : World) (hx : x < WB) (he : e < 1000) : Calls Tryz.prog 145 #[.int .u64 x, .int .i64 e] w fun r w' => r = .returned (.int .u64 (x ^ e % WB : Nat)) ∧ w = w' := by
  obtain ⟨D, hD⟩ : ∃ D, D = x ^ e % WB := ⟨_, rfl⟩
  rw [← hD]
  have HD := Lib.hid hD
  clear hD
  go_enter Tryz.func145, Tryz.ntmps145
  go_wp2_with fail
  go_loop [0, 1, 4] (fun a b c => ∃ X n P : Nat, a = .int .u64 X ∧ b = .int .i64 n ∧ c = .int .u64 P ∧ X < WB ∧ P < WB ∧ n ≤ e ∧ Hid (P * X ^ n % WB = D)) (fun _ b _ => (intOf b).toNat)
  case atStart => exact ⟨x, e, 1, rfl, rfl, rfl, hx, by decide, Nat.le_refl _, Lib.hid (by rw [Nat.one_mul, HD.out])⟩
  case round =>
    obtain ⟨X, n, P, rfl, rfl, rfl, hX, hP, hn, hE⟩ := hrel
    by_cases hz : n = 0
    · subst hz
      go_wp2_with fail
      go_ret
      have h1 := hE.out
      rw [Nat.pow_zero, Nat.mul_one, Nat.mod_eq_of_lt hP] at h1
      exact ⟨by rw [h1]; rfl, rfl⟩
    · have hz' : 0 < n := by omega
      have t1 : decide ((0 : Int) < (n : Int)) = true := decide_eq_true (by omega)
      have a1 : bits BinOp.and .i64 (n : Int) 1 = ((n % 2 : Nat) : Int) := and1i' (by omega)
      obtain ⟨X2, hX2⟩ : ∃ X2, X2 = X * X % WB := ⟨_, rfl⟩
      have e2 : IntKind.u64.wrap ((X : Int) * X) = (X2 : Int) := by rw [hX2, ← wrap_cast, Int.natCast_mul]
      obtain ⟨P2, hP2⟩ : ∃ P2, P2 = P * X % WB := ⟨_, rfl⟩
      have e3 : IntKind.u64.wrap ((P : Int) * X) = (P2 : Int) := by rw [hP2, ← wrap_cast, Int.natCast_mul]
      have hS := pow_step P X n D hE.out hz'
      rw [← hX2, ← hP2] at hS
      have HS := Lib.hid hS
      have l2 : X2 < WB := by rw [hX2]; exact Nat.mod_lt _ WB_pos
      have l3 : P2 < WB := by rw [hP2]; exact Nat.mod_lt _ WB_pos
      obtain ⟨m, hm⟩ : ∃ m, m = n / 2 := ⟨_, rfl⟩
      have e4 : (n : Int) / 2 = (m : Int) := by omega
      have HM := Lib.hid hm
      have hmn : m ≤ n / 2 := by omega
      clear hS hX2 hP2 hE hm
      rcases Nat.mod_two_eq_zero_or_one n with h | h
      · have a2 : ((n % 2 : Nat) : Int) = 0 := by omega
        rw [a2] at a1
        go_wp2_with fail
        go_round
        case rel =>
          refine ⟨X2, m, P, rfl, ?_, rfl, l2, hP, by omega, Lib.hid ?_⟩
          · first | rfl | (congr 1; omega)
          · have := HS.out; rw [if_neg (by omega), ← HM.out] at this; exact this
        case measure => clear e2 e3 a1 a2 t1; simp [intOf, e4]; omega
      · have a2 : ((n % 2 : Nat) : Int) = 1 := by omega
        rw [a2] at a1
        go_wp2_with fail
        go_round
        case rel =>
          refine ⟨X2, m, P2, rfl, ?_, rfl, l2, l3, by omega, Lib.hid ?_⟩
          · first | rfl | (congr 1; omega)
          · have := HS.out; rw [if_pos h, ← HM.out] at this; exact this
        case measure => clear e2 e3 a1 a2 t1; simp [intOf, e4]; omega
/-- A list's number turned round. -/
def revAt (f : Nat → Nat) (n k p : Nat) : Nat := if p < k ∨ n - 1 - k < p then f (n - 1 - p) else f p
set_option maxHeartbeats 1000000 in
theorem words_reverse (b o n c : Nat) (w : World) (h : NW w b o n c) (hn0 : 0 < n) (hn : n < 1000000) :
    Calls Tryz.prog 146 #[.slice (some ⟨b, o, none⟩) n c] w fun r w' => r = .returned (.tuple #[]) ∧ (∀ p, p < n → wd w' b (o + p) = wd w b (o + (n - 1 - p))) ∧ Chg (Rng b o n) w w' := by
  have hle := h.le
  go_enter Tryz.func146, Tryz.ntmps146
  go_wp2_with fail
  go_loopw [2, 3] (fun i j wr => ∃ k : Nat, 2 * k ≤ n ∧ i = .int .i64 k ∧ j = .int .i64 ((n - 1 - k : Nat) : Int) ∧ Hid (∀ p, p < n → wd wr b (o + p) = revAt (fun q => wd w b (o + q)) n k p) ∧ Chg (Rng b o n) w wr) (fun i _ _ => n - (intOf i).toNat)
  case atStart => exact ⟨0, by omega, rfl, by go_num, Lib.hid fun p hp => by unfold revAt; rw [if_neg (by omega)], Chg.refl _ _⟩
  case round =>
    obtain ⟨k, hk, rfl, rfl, hV, hC⟩ := hrel
    by_cases hlt : k < n - 1 - k
    · obtain ⟨j, hj⟩ : ∃ j, j = n - 1 - k := ⟨_, rfl⟩
      rw [← hj]
      have hjn : j < n := by omega
      have hkj : k < j := by omega
      have wi := hC.isW _ _ (h.isW k (by omega))
      have wj := hC.isW _ _ (h.isW j (by omega))
      have ci := wi.cell
      have cj := wj.cell
      have li := wi.lt
      have lj := wj.lt
      have fi : wr.frozen? ⟨b, o + k, none⟩ = false := (hC.frozen _ (h.isW k (by omega)).block).trans (h.plain.free _)
      have fj : wr.frozen? ⟨b, o + j, none⟩ = false := (hC.frozen _ (h.isW k (by omega)).block).trans (h.plain.free _)
      have Wi := Lib.hid wi
      have Wj := Lib.hid wj
      have i1 : (k : Int) < (j : Int) := by omega
      have HJ := Lib.hid hj
      have hV1 := hV.out k (by omega)
      have hV2 := hV.out j (by omega)
      have e5 : IntKind.i64.wrap ((j : Int) - 1) = ((j - 1 : Nat) : Int) := by rw [IntKind.wrap_i64]; omega
      clear hj wi wj hlt
      go_wp2_with fail
      go_region
      go_wp2_with fail
      go_roundw
      case rel =>
        have k1 := Wj.out
        have c2 : Chg (Rng b o n) w (wr.setCell ⟨b, o + k, none⟩ (.int .u64 (revAt (fun q => wd w b (o + q)) n k j : Nat))) := hC.setW Wi.out (by rw [← hV2]; exact lj) (fun _ => ⟨rfl, by omega, by omega⟩)
        have k2 : IsW (wr.setCell ⟨b, o + k, none⟩ (.int .u64 (revAt (fun q => wd w b (o + q)) n k j : Nat))) b (o + j) := IsI.setW Wi.out (by rw [← hV2]; exact lj) _ _ k1
        have hj := HJ.out
        refine ⟨k + 1, by omega, by go_num, by congr 2; omega, Lib.hid fun p hp => ?_, (c2.setW k2 (by rw [← hV1]; exact li) (fun _ => ⟨rfl, by omega, by omega⟩)).drew⟩
        by_cases e1 : p = j
        · subst e1
          refine (wd_setCell_same k2.cell).trans ?_
          unfold revAt; rw [if_neg (by omega), if_pos (by omega)]; congr 2; omega
        · refine (wd_setCell_ne (.inr (by omega))).trans ?_
          by_cases e2 : p = k
          · subst e2
            refine (wd_setCell_same Wi.out.cell).trans ?_
            unfold revAt; rw [if_neg (by omega), if_pos (by omega)]; congr 2
          · refine (wd_setCell_ne (.inr (by omega))).trans ((hV.out p hp).trans ?_)
            unfold revAt
            by_cases e3 : p < k ∨ n - 1 - k < p
            · rw [if_pos e3, if_pos (by omega)]
            · rw [if_neg e3, if_neg (by omega)]
      case measure => simp [intOf]; omega
    · have i1 : ¬ (k : Int) < ((n - 1 - k : Nat) : Int) := by omega
      go_wp2_with fail
      go_end0
      refine ⟨rfl, fun p hp => ?_, hC⟩
      rw [hV.out p hp]; unfold revAt
      split
      · rfl
      · congr 2; omega
/-- The digit of a byte. -/
def dgv (c : Nat) : Nat := if c ≤ 57 then c - 48 else c - 87
/-- A byte that is a digit in base b. -/
def IsDg (b c : Nat) : Prop := (48 ≤ c ∧ c ≤ 57 ∨ 97 ≤ c ∧ c ≤ 122) ∧ dgv c < b
/-- Reading a mantissa: digits so far, their number, where the point lies (or -1). -/
def StN (b c0 : Nat) (ch : Nat → Nat) : Nat → Nat × Nat × Int
  | 0 => (c0, 0, -1)
  | j + 1 => if ch j = 46 then ((StN b c0 ch j).1, (StN b c0 ch j).2.1, ((StN b c0 ch j).1 : Int)) else ((StN b c0 ch j).1 + 1, (StN b c0 ch j).2.1 * b + dgv (ch j), (StN b c0 ch j).2.2)
/-- A mantissa of M bytes that is read whole. -/
def Mnt (b c0 : Nat) (fo : Bool) (ch : Nat → Nat) (M : Nat) : Prop := ∀ j, j < M → (ch j = 46 ∧ fo = true ∧ (StN b c0 ch j).2.2 = -1) ∨ (ch j ≠ 46 ∧ IsDg b (ch j))
theorem StN_cnt (b c0 : Nat) (ch : Nat → Nat) : ∀ j, c0 ≤ (StN b c0 ch j).1 ∧ (StN b c0 ch j).1 ≤ c0 + j ∧ -1 ≤ (StN b c0 ch j).2.2 ∧ (StN b c0 ch j).2.2 ≤ (StN b c0 ch j).1
  | 0 => by simp [StN]
  | j + 1 => by
    have ih := StN_cnt b c0 ch j
    unfold StN
    split
    · simp; omega
    · simp; omega
theorem StN_lt {b c0 : Nat} {fo : Bool} {ch : Nat → Nat} {M : Nat} (h : Mnt b c0 fo ch M) (hb : 0 < b) : ∀ j, j ≤ M → (StN b c0 ch j).2.1 < b ^ (StN b c0 ch j).1
  | 0, _ => by simp only [StN]; exact Nat.pow_pos hb
  | j + 1, hj => by
    have ih := StN_lt h hb j (by omega)
    have h1 := h j (by omega)
    unfold StN
    split
    · exact ih
    · next hne =>
      rcases h1 with ⟨e, _⟩ | ⟨_, h1⟩
      · exact absurd e hne
      · have h2 := h1.2
        simp only
        rw [Nat.pow_succ]
        generalize (StN b c0 ch j).2.1 = N at *
        generalize b ^ (StN b c0 ch j).1 = P at *
        have : N * b + b ≤ P * b := by rw [← Nat.succ_mul]; exact Nat.mul_le_mul_right _ ih
        omega
/-- What is told of the count. -/
def cntOut (s : Nat × Nat × Int) : Int := if 0 ≤ s.2.2 then s.2.2 - s.1 else s.1
/-- A reader has taken the byte at i, or is at the end. -/
def Cur (eo : Addr) (w : World) (r : Nat) (l : List Nat) (i : Nat) (chv errv : Value) : Prop :=
  (i < l.length ∧ chv = .int .u8 (l.getD i 0 : Nat) ∧ errv = .nilIface ∧ RdAt w r l (i + 1)) ∨ (i = l.length ∧ chv = .int .u8 0 ∧ errv = .iface 245 (.pointer (some eo)) ∧ RdAt w r l l.length)
/-- What a read leaves. -/
def CurOut (eo : Addr) (r : Nat) (l : List Nat) (i : Nat) (w : World) (e : Ending) (w' : World) : Prop :=
  ∃ chv errv, e = .returned (.tuple #[chv, errv]) ∧ Cur eo w' r l i chv errv ∧ Chg (Blk r) w w'
theorem rdr_next (eo : Addr) (r : Nat) (l : List Nat) (i : Nat) (w : World) (h : RdAt w r l i) (hl : ∀ x ∈ l, x < 256) (hi : i ≤ l.length) (hn : l.length ≤ 1000000) (he : w.cell? ⟨0, 0, none⟩ = some (.iface 245 (.pointer (some eo)))) :
    Calls Tryz.prog 90 #[.pointer (some ⟨r, 0, none⟩)] w (CurOut eo r l i w) := by
  by_cases hlt : i < l.length
  · refine (rdr_read r l i w h hl hlt hn).mono ?_
    rintro e w' ⟨rfl, h1, h2⟩
    exact ⟨_, _, rfl, .inl ⟨hlt, rfl, rfl, h1⟩, h2⟩
  · obtain rfl : i = l.length := by omega
    refine (rdr_eof r l _ w h he hn).mono ?_
    rintro e w' ⟨rfl, h1, h2⟩
    exact ⟨_, _, rfl, .inr ⟨rfl, rfl, rfl, h1⟩, h2⟩
theorem eof_chg {S : Nat → Nat → Prop} {w w' : World} {v : Value} (he : w.cell? ⟨0, 0, none⟩ = some v) (hc : Chg S w w') (hs : ¬ S 0 0) : w'.cell? ⟨0, 0, none⟩ = some v :=
  (hc.cell 0 0 (World.block_lt_of_cell? _ _ he) hs).trans he
/-- Words of a number, the highest first. -/
def hz (ws : List Nat) : Nat := ws.foldl (fun a x => a * WB + x) 0
theorem hz_snoc (ws : List Nat) (x : Nat) : hz (ws ++ [x]) = hz ws * WB + x := by simp [hz]
theorem Vl_consA (x : Nat) (us : List Nat) : Vl (x :: us) = x + WB * Vl us := by
  unfold Vl
  rw [List.length_cons, V_hd]
  congr 2
  congr 1
  funext j
  rw [Nat.add_comm 1 j]; rfl
theorem hz_rev : ∀ us : List Nat, hz us.reverse = Vl us
  | [] => rfl
  | x :: us => by rw [List.reverse_cons, hz_snoc, hz_rev us, Vl_consA, Nat.mul_comm, Nat.add_comm]
theorem Vl_rev (ws : List Nat) : Vl ws.reverse = hz ws := by rw [← hz_rev, List.reverse_reverse]
end Go.Proofs.YtacfhndledcmgaaGreatDoor
