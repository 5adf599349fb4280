/- Lemmas for the law FnBackDecimal: the stack, nat.divBasic. Conditions: those in each theorem; none besides. -/
import Derived.Test.YtacfhndledcmgaaGreatDoorK23
import Derived.Test.YtacfhndledcmgaaGreatDoorK7
import Derived.Defers
import Derived.Test.YtacfhndledcmgaaGreatDoorK22
import Derived.Test.YtacfhndledcmgaaGreatDoorK4
import Derived.Deep.RegionHeld3
set_option linter.unusedVariables false
set_option linter.unusedSimpArgs false
namespace Go.Proofs.YtacfhndledcmgaaGreatDoor
open Go.RowKit
/-- The places of a slice from its length on. -/
def Beyond : Option Addr → Nat → Nat → Nat → Nat → Prop
  | some a, n, c => fun x o => x = a.block ∧ a.off + n ≤ o ∧ o < a.off + c
  | none, _, _ => No
/-- A stack in memory: nothing yet, or a block i that holds a slice of words. -/
def Sk (w : World) (s : Nat) : Option (Nat × Option Addr × Nat × Nat) → Prop
  | none => 17 ≤ s ∧ Plain w s ∧ w.cell? ⟨s, 0, none⟩ = some (.pointer none)
  | some (i, A, n, c) => 17 ≤ s ∧ Plain w s ∧ w.cell? ⟨s, 0, none⟩ = some (.pointer (some ⟨i, 0, none⟩)) ∧ 17 ≤ i ∧ i ≠ s ∧ Plain w i ∧ w.cell? ⟨i, 0, none⟩ = some (.slice A n c) ∧ Ow w (.slice A n c) ∧ ∀ x o, Fp (.slice A 0 c) x o → x ≠ s ∧ x ≠ i
def skLen : Option (Nat × Option Addr × Nat × Nat) → Nat
  | none => 0
  | some (_, _, n, _) => n
def skCut (k : Nat) : Option (Nat × Option Addr × Nat × Nat) → Option (Nat × Option Addr × Nat × Nat)
  | none => none
  | some (i, A, _, c) => some (i, A, k, c)
/-- Its blocks of cells. -/
def SkC (s : Nat) : Option (Nat × Option Addr × Nat × Nat) → Nat → Prop
  | none => fun x => x = s
  | some (i, _, _, _) => fun x => x = s ∨ x = i
/-- All its places. -/
def SkF (s : Nat) : Option (Nat × Option Addr × Nat × Nat) → Nat → Nat → Prop
  | none => fun x _ => x = s
  | some (i, A, _, c) => fun x o => x = s ∨ x = i ∨ Fp (.slice A 0 c) x o
/-- The places that it may still hand out, and its cells. -/
def SkT (s : Nat) : Option (Nat × Option Addr × Nat × Nat) → Nat → Nat → Prop
  | none => fun x _ => x = s
  | some (i, A, n, c) => fun x o => x = s ∨ x = i ∨ Beyond A n c x o
/-- The same stack later on: from block m on all is new. -/
def SkR (m : Nat) : Option (Nat × Option Addr × Nat × Nat) → Option (Nat × Option Addr × Nat × Nat) → Prop
  | none, none => True
  | none, some (i, A, _, c) => m ≤ i ∧ ∀ x o, Fp (.slice A 0 c) x o → m ≤ x
  | some (i, A, _, c), some (i', A', _, c') => i = i' ∧ ((A = A' ∧ c = c') ∨ ∀ x o, Fp (.slice A' 0 c') x o → m ≤ x)
  | some _, none => False
theorem SkR.refl (m : Nat) (st : Option (Nat × Option Addr × Nat × Nat)) : SkR m st st := by
  match st with
  | none => trivial
  | some (i, A, n, c) => exact ⟨rfl, .inl ⟨rfl, rfl⟩⟩
theorem SkR.trans {m m' : Nat} {s1 s2 s3 : Option (Nat × Option Addr × Nat × Nat)} (h : SkR m s1 s2) (k : SkR m' s2 s3) (hm : m ≤ m') : SkR m s1 s3 := by
  match s1, s2, s3, h, k with
  | none, none, none, _, _ => trivial
  | none, none, some (i, A, _, _), _, k => exact ⟨Nat.le_trans hm k.1, fun x o e => Nat.le_trans hm (k.2 x o e)⟩
  | none, some (i, A, _, c), some (i', A', _, c'), h, k =>
    obtain ⟨rfl, k2⟩ := k
    refine ⟨h.1, fun x o e => ?_⟩
    rcases k2 with ⟨rfl, rfl⟩ | k2
    · exact h.2 x o e
    · exact Nat.le_trans hm (k2 x o e)
  | some (i, A, _, c), some (i', A', _, c'), some (i'', A'', _, c''), h, k =>
    obtain ⟨rfl, h2⟩ := h
    obtain ⟨rfl, k2⟩ := k
    refine ⟨rfl, ?_⟩
    rcases k2 with ⟨rfl, rfl⟩ | k2
    · exact h2
    · exact .inr fun x o e => Nat.le_trans hm (k2 x o e)
theorem SkR.cut {m : Nat} {s1 s2 : Option (Nat × Option Addr × Nat × Nat)} (h : SkR m s1 s2) (k : Nat) : SkR m s1 (skCut k s2) := by
  match s1, s2, h with
  | none, none, _ => trivial
  | none, some (i, A, _, _), h => exact h
  | some (i, A, _, c), some (i', A', _, c'), h => exact h
theorem SkR.f {m s : Nat} {s1 s2 : Option (Nat × Option Addr × Nat × Nat)} (h : SkR m s1 s2) {x o : Nat} (hx : SkF s s2 x o) : SkF s s1 x o ∨ m ≤ x := by
  match s1, s2, h, hx with
  | none, none, _, hx => exact .inl hx
  | none, some (i, A, n, c), h, hx =>
    rcases hx with hx | hx | hx
    · exact .inl hx
    · exact .inr (hx ▸ h.1)
    · exact .inr (h.2 x o hx)
  | some (i, A, n, c), some (i', A', n', c'), h, hx =>
    obtain ⟨rfl, h2⟩ := h
    rcases hx with hx | hx | hx
    · exact .inl (.inl hx)
    · exact .inl (.inr (.inl hx))
    · rcases h2 with ⟨rfl, rfl⟩ | h2
      · exact .inl (.inr (.inr hx))
      · exact .inr (h2 x o hx)
theorem Beyond.fp {A : Option Addr} {n c x o : Nat} (h : Beyond A n c x o) : Fp (.slice A 0 c) x o := by
  match A, h with
  | some a, h => exact ⟨h.1, by have := h.2.1; omega, by have := h.2.2; omega⟩
theorem Beyond.le {A : Option Addr} {n m c x o : Nat} (h : Beyond A n c x o) (hm : m ≤ n) : Beyond A m c x o := by
  match A, h with
  | some a, h => exact ⟨h.1, by have := h.2.1; omega, by have := h.2.2; omega⟩
theorem SkT.f {s : Nat} {st : Option (Nat × Option Addr × Nat × Nat)} {x o : Nat} (h : SkT s st x o) : SkF s st x o := by
  match st, h with
  | none, h => exact h
  | some (i, A, n, c), h => exact h.imp id (fun h => h.imp id Beyond.fp)
theorem SkC.f {s : Nat} {st : Option (Nat × Option Addr × Nat × Nat)} {x : Nat} (h : SkC s st x) (o : Nat) : SkF s st x o := by
  match st, h with
  | none, h => exact h
  | some (i, A, n, c), h => exact h.imp id .inl
theorem SkC.t {s : Nat} {st : Option (Nat × Option Addr × Nat × Nat)} {x : Nat} (h : SkC s st x) (o : Nat) : SkT s st x o := by
  match st, h with
  | none, h => exact h
  | some (i, A, n, c), h => exact h.imp id .inl
theorem SkR.t {m s : Nat} {s1 s2 : Option (Nat × Option Addr × Nat × Nat)} (h : SkR m s1 s2) (hl : skLen s1 ≤ skLen s2) {x o : Nat} (hx : SkT s s2 x o) : SkT s s1 x o ∨ m ≤ x := by
  match s1, s2, h, hl, hx with
  | none, none, _, _, hx => exact .inl hx
  | none, some (i, A, n, c), h, _, hx =>
    rcases hx with hx | hx | hx
    · exact .inl hx
    · exact .inr (hx ▸ h.1)
    · exact .inr (h.2 x o hx.fp)
  | some (i, A, n, c), some (i', A', n', c'), h, hl, hx =>
    obtain ⟨rfl, h2⟩ := h
    rcases hx with hx | hx | hx
    · exact .inl (.inl hx)
    · exact .inl (.inr (.inl hx))
    · rcases h2 with ⟨rfl, rfl⟩ | h2
      · exact .inl (.inr (.inr (hx.le hl)))
      · exact .inr (h2 x o hx.fp)
theorem Sk.chg {S : Nat → Nat → Prop} {w w' : World} {s : Nat} {st : Option (Nat × Option Addr × Nat × Nat)} (h : Sk w s st) (hc : Chg S w w') (hS : ∀ x o, SkC s st x → ¬ S x o) : Sk w' s st := by
  match st, h with
  | none, h =>
    obtain ⟨h1, h2, h3⟩ := h
    exact ⟨h1, hc.plain _ h2, (hc.cell _ _ h2.lt (hS _ _ rfl)).trans h3⟩
  | some (i, A, n, c), h =>
    obtain ⟨h1, h2, h3, h4, h5, h6, h7, h8, h9⟩ := h
    exact ⟨h1, hc.plain _ h2, (hc.cell _ _ h2.lt (hS _ _ (.inl rfl))).trans h3, h4, h5, hc.plain _ h6, (hc.cell _ _ h6.lt (hS _ _ (.inr rfl))).trans h7, h8.chg hc, h9⟩
theorem Sk.lt {w : World} {s : Nat} {st : Option (Nat × Option Addr × Nat × Nat)} (h : Sk w s st) {x o : Nat} (hx : SkF s st x o) : x < w.heap.size ∧ 17 ≤ x := by
  match st, h, hx with
  | none, h, hx => obtain rfl : x = s := hx; exact ⟨h.2.1.lt, h.1⟩
  | some (i, A, n, c), h, hx =>
    obtain ⟨h1, h2, h3, h4, h5, h6, h7, h8, h9⟩ := h
    rcases hx with rfl | rfl | hx
    · exact ⟨h2.lt, h1⟩
    · exact ⟨h6.lt, h4⟩
    · have hx' : Fp (.slice A n c) x o := by match A, hx with | some a, hx => exact hx
      exact ⟨hx'.lt h8, hx'.own h8⟩
set_option maxHeartbeats 1000000 in
theorem stk_save (s : Nat) (st : Option (Nat × Option Addr × Nat × Nat)) (w : World) (h : Sk w s st) : Calls Tryz.prog 168 #[.pointer (some ⟨s, 0, none⟩)] w fun e w' => e = .returned (.int .i64 (skLen st : Nat)) ∧ w = w' := by
  match st, h with
  | none, h =>
    obtain ⟨h1, h2, h3⟩ := h
    go_enter Tryz.func168, Tryz.ntmps168
    go_wp2_with fail
    go_ret
    exact ⟨rfl, rfl⟩
  | some (i, A, n, c), h =>
    obtain ⟨h1, h2, h3, h4, h5, h6, h7, h8, h9⟩ := h
    have hin : Calls Tryz.prog 232 #[.pointer (some ⟨i, 0, none⟩)] w fun e w' => e = .returned (.int .i64 (n : Nat)) ∧ w = w' := by
      rcases h8 with e | ⟨b, o, n', c', e, hn⟩
      all_goals
        cases e
        go_enter Tryz.func232, Tryz.ntmps232
        go_wp2_with fail
        go_ret
        exact ⟨rfl, rfl⟩
    have HI := Lib.hid hin
    clear hin h7 h8 h9
    go_enter Tryz.func168, Tryz.ntmps168
    go_wp2_with fail
    refine HI.out.mono ?_
    rintro e w1 ⟨rfl, rfl⟩
    go_wp2_with fail
    go_ret
    exact ⟨rfl, rfl⟩
/-- A slice stored in a cell that held one. -/
theorem cell_sl {w : World} {i : Nat} {A : Option Addr} {n c : Nat} (h : w.cell? ⟨i, 0, none⟩ = some (.slice A n c)) (v : Value) : Chg (Blk i) w (w.setCell ⟨i, 0, none⟩ v) :=
  (Chg.refl (Blk i) w).setO v h (by simp) (by simp) (fun _ => rfl)
set_option maxHeartbeats 1000000 in
theorem stk_restore_d (s k : Nat) (st : Option (Nat × Option Addr × Nat × Nat)) (w : World) (u : FrameMode) (h : Sk w s st) (hk : k ≤ skLen st) :
    CallsD Tryz.prog 167 #[.pointer (some ⟨s, 0, none⟩), .int .i64 k] u w fun e u' w' => u' = u ∧ e = .returned (.tuple #[]) ∧ Sk w' s (skCut k st) ∧ Chg (fun x _ => SkC s st x) w w' := by
  match st, h, hk with
  | none, h, _ =>
    have HS := Lib.hid h
    obtain ⟨h1, h2, h3⟩ := h
    go_enter_d Tryz.func167, Tryz.ntmps167
    go_wp2_with fail
    refine bodyPost_ret (results_none rfl _ _ _) rfl ?_
    exact ⟨rfl, HS.out, Chg.refl _ _⟩
  | some (i, A, n, c), h, hk =>
    obtain ⟨h1, h2, h3, h4, h5, h6, h7, h8, h9⟩ := h
    have hk' : k ≤ n := hk
    have hf := h6.free 0
    have hin : Calls Tryz.prog 231 #[.pointer (some ⟨i, 0, none⟩), .int .i64 k] w fun e w' => e = .returned (.tuple #[]) ∧ w.setCell ⟨i, 0, none⟩ (.slice A k c) = w' := by
      rcases h8 with e | ⟨b, o, n', c', e, hn⟩
      · cases e
        obtain rfl : k = 0 := by omega
        go_enter Tryz.func231, Tryz.ntmps231
        go_wp2_with fail
        go_end0
        exact ⟨rfl, rfl⟩
      · cases e
        have hle := hn.le
        have i1 : (k : Int) ≤ c := by omega
        go_enter Tryz.func231, Tryz.ntmps231
        go_wp2_with fail
        go_end0
        exact ⟨rfl, rfl⟩
    have HI := Lib.hid hin
    have hc := cell_sl h7 (.slice A k c)
    have hs : Sk (w.setCell ⟨i, 0, none⟩ (.slice A k c)) s (skCut k (some (i, A, n, c))) := by
      refine ⟨h1, hc.plain _ h2, (hc.cell _ _ h2.lt (fun f => h5 f.symm)).trans h3, h4, h5, hc.plain _ h6, World.cell?_setCell_same _ _ _ h7, ?_, h9⟩
      rcases (h8.chg hc) with e | ⟨b, o, n', c', e, hn⟩
      · cases e
        obtain rfl : k = 0 := by omega
        exact .inl rfl
      · cases e
        exact .inr ⟨b, o, k, c, rfl, hn.len (by have := hn.le; omega)⟩
    have HC := Lib.hid (And.intro hc hs)
    clear hin h7 h8 h9 hc hs hf
    go_enter_d Tryz.func167, Tryz.ntmps167
    go_wp2_with fail
    refine HI.out.mono ?_
    rintro e w1 ⟨rfl, rfl⟩
    go_wp2_with fail
    go_end0
    exact ⟨rfl, HC.out.2, HC.out.1.mono (fun x o _ f => .inr f)⟩
theorem andNot3 {a : Nat} (h : a < 4294967296) : bits BinOp.andNot .i64 (a : Int) 3 = ((a / 4 * 4 : Nat) : Int) := by
  have h1 : (BitVec.ofInt 64 (a : Int)).toNat = a := by
    rw [BitVec.ofInt_natCast, BitVec.toNat_ofNat]; exact Nat.mod_eq_of_lt (by omega)
  have h2 : (~~~ BitVec.ofInt 64 (3 : Int)).toNat = 18446744073709551612 := by decide
  show IntKind.i64.wrap ((BitVec.ofInt 64 (a : Int) &&& ~~~ BitVec.ofInt 64 (3 : Int)).toNat : Int) = _
  rw [BitVec.toNat_and, h1, h2]
  have h3 : a &&& 18446744073709551612 = a / 4 * 4 := by
    apply Nat.eq_of_testBit_eq
    intro i
    rw [Nat.testBit_and, show (18446744073709551612 : Nat) = (2 ^ 62 - 1) <<< 2 by decide, show a / 4 * 4 = (a >>> 2) <<< 2 by rw [Nat.shiftRight_eq_div_pow, Nat.shiftLeft_eq]]
    rw [Nat.testBit_shiftLeft, Nat.testBit_shiftLeft, Nat.testBit_shiftRight, Nat.testBit_two_pow_sub_one]
    by_cases hi : 2 ≤ i
    · have e : 2 + (i - 2) = i := by omega
      rw [e]
      by_cases h64 : i < 64
      · have : i - 2 < 62 := by omega
        simp [hi, this]
      · have : a.testBit i = false := Nat.testBit_lt_two_pow (Nat.lt_of_lt_of_le h (Nat.le_trans (show 4294967296 ≤ 2 ^ 32 by decide) (Nat.pow_le_pow_right (by decide) (by omega))))
        simp [this]
    · simp [hi]
  rw [h3]
  exact IntWalk.i64_in _ (by omega)
/-- What nat of a stack answers: n words of one's own, and the stack behind it. -/
structure SkNew (w w' : World) (s : Nat) (st st' : Option (Nat × Option Addr × Nat × Nat)) (b o n c : Nat) : Prop where
  nw : NW w' b o n c
  sk : Sk w' s st'
  lo : skLen st ≤ skLen st'
  hi : skLen st' ≤ skLen st + n + 3
  rel : SkR w.heap.size st st'
  out : ∀ x p, Rng b o c x p → ¬ SkT s st' x p
  own : ∀ x p, Rng b o c x p → SkT s st x p ∨ w.heap.size ≤ x
  chg : Chg (SkT s st) w w'
set_option maxHeartbeats 2000000 in
theorem stk_inner (s i : Nat) (A : Option Addr) (l c n : Nat) (w : World) (h : Sk w s (some (i, A, l, c))) (hn0 : 0 < n) (hb : l + n ≤ 50000) (h17 : 17 ≤ w.heap.size) :
    Calls Tryz.prog 234 #[.pointer (some ⟨i, 0, none⟩), .int .i64 n] w fun e w' => ∃ b o st', e = .returned (.slice (some ⟨b, o, none⟩) n n) ∧ SkNew w w' s (some (i, A, l, c)) st' b o n n := by
  have HS := Lib.hid h
  obtain ⟨h1, h2, h3, h4, h5, h6, h7, h8, h9⟩ := h
  obtain ⟨r, hr⟩ : ∃ r, r = (n + 3) / 4 * 4 := ⟨_, rfl⟩
  have e1 : bits BinOp.andNot .i64 ((n : Int) + 3) 3 = (r : Int) := by
    have := andNot3 (a := n + 3) (by omega)
    rw [← hr] at this
    simpa using this
  have hr1 : n ≤ r := by omega
  have hr2 : r ≤ n + 3 := by omega
  have HG := Lib.hid (grow84 A l c r w h8 (by omega) (by omega) h17)
  have H9 := Lib.hid h9
  have hi0 := h6.lt
  have hs0 := h2.lt
  clear hr h8 h9
  go_enter Tryz.func234, Tryz.ntmps234
  go_wp2_with fail
  refine HG.out.mono ?_
  rintro e w1 ⟨b, o, c', rfl, g1, g2, g3, g4⟩
  have c1 := (g3.cell i 0 h6.lt (fun f => f)).trans h7
  have p1 := g3.plain _ h6
  have f1 := p1.free 0
  have hbs : b ≠ s ∧ b ≠ i := by
    rcases g4 with ⟨e, e'⟩ | ⟨e, e'⟩
    · subst e; subst e'
      exact H9.out b o ⟨rfl, Nat.le_refl _, by simp; omega⟩
    · omega
  have G4 := Lib.hid g4
  have K1 := Lib.hid g3
  clear h7 g3 g4 HG
  go_upto_region 4 with fail
  have k2 := cell_sl c1 (.slice (some ⟨b, o, none⟩) l c')
  have c2 := World.cell?_setCell_same w1 ⟨i, 0, none⟩ (.slice (some ⟨b, o, none⟩) l c') c1
  have p2 := k2.plain _ p1
  have f2 := p2.free 0
  have n2 := g1.chg k2
  have K2 := Lib.hid ((K1.out.no (S := Blk i)).then k2 (fun _ _ _ f => f))
  clear c1 p1 f1 g1 k2
  generalize w1.setCell ⟨i, 0, none⟩ (.slice (some ⟨b, o, none⟩) l c') = w2 at c2 p2 f2 n2 K2 ⊢
  have i1 : (l : Int) + (r : Int) ≤ (c' : Int) := by omega
  go_upto_region 5 with fail
  have k3 := cell_sl c2 (.slice (some ⟨b, o, none⟩) (l + r) c')
  have c3 := World.cell?_setCell_same w2 ⟨i, 0, none⟩ (.slice (some ⟨b, o, none⟩) (l + r) c') c2
  have p3 := k3.plain _ p2
  have n3 := n2.chg k3
  have K3 := Lib.hid (K2.out.then k3 (fun _ _ _ f => f))
  clear c2 p2 f2 n2 k3
  generalize w2.setCell ⟨i, 0, none⟩ (.slice (some ⟨b, o, none⟩) (l + r) c') = w3 at c3 p3 n3 K3 ⊢
  have hcw := n3.isW l (by omega)
  have cw := hcw.cell
  have fw := n3.plain.free (o + l)
  have i2 : (l : Int) + (n : Int) ≤ (c' : Int) := by omega
  have i3 : (l : Int) ≤ (l : Int) + (n : Int) := by omega
  have i4 : 0 < (n : Int) := by omega
  go_wp2_with fail
  go_ret
  have k4 := Chg.setW (S := Rng b (o + l) n) (Chg.refl _ w3) hcw (show 1043915 < WB by decide) (fun _ => ⟨rfl, by omega, by omega⟩)
  have hsk : Sk w3 s (some (i, some ⟨b, o, none⟩, l + r, c')) := by
    obtain ⟨q1, q2, q3, q4, q5, q6, q7, q8, q9⟩ := HS.out
    refine ⟨q1, K3.out.plain _ q2, (K3.out.cell _ _ q2.lt (fun f => q5 f.symm)).trans q3, q4, q5, p3, c3, .inr ⟨b, o, l + r, c', rfl, n3.len (by omega)⟩, ?_⟩
    rintro x p ⟨rfl, _, _⟩
    exact hbs
  refine ⟨b, o + l, some (i, some ⟨b, o, none⟩, l + r, c'), (by show Ending.returned (Value.slice (some ⟨b, o + l, none⟩) (l + n - l) (l + n - l)) = _; rw [Nat.add_sub_cancel_left]), ?_, hsk.chg k4 ?_, ?_, ?_, ⟨rfl, ?_⟩, ?_, ?_, ?_⟩
  · refine NW.chg ⟨Nat.le_refl _, ?_, fun j hj => ?_, n3.plain, n3.own⟩ k4
    · have := n3.max; omega
    · rw [Nat.add_assoc]; exact n3.isW _ (by omega)
  · rintro x p (rfl | rfl) f
    · exact hbs.1 f.1.symm
    · exact hbs.2 f.1.symm
  · show l ≤ l + r; omega
  · show l + r ≤ l + n + 3; omega
  · rcases G4.out with ⟨e, e'⟩ | ⟨e, e'⟩
    · exact .inl ⟨e, e'.symm⟩
    · right
      rintro x p ⟨rfl, _, _⟩
      exact e
  · rintro x p ⟨rfl, f1, f2⟩ (f | f | f)
    · exact hbs.1 f
    · exact hbs.2 f
    · have := f.2.1
      simp at this
      omega
  · rintro x p ⟨rfl, f1, f2⟩
    rcases G4.out with ⟨e, e'⟩ | ⟨e, e'⟩
    · subst e; subst e'
      exact .inl (.inr (.inr ⟨rfl, f1, by simp; omega⟩))
    · exact .inr e
  · refine (K3.out.mono (fun x p _ f => .inr (.inl f))).then k4 ?_
    rintro x p hx ⟨rfl, f1, f2⟩
    rcases G4.out with ⟨e, e'⟩ | ⟨e, e'⟩
    · subst e; subst e'
      exact .inr (.inr ⟨rfl, f1, by simp; omega⟩)
    · omega
set_option maxHeartbeats 2000000 in
theorem stk_nat (s : Nat) (st : Option (Nat × Option Addr × Nat × Nat)) (n : Nat) (w : World) (h : Sk w s st) (hn0 : 0 < n) (hb : skLen st + n ≤ 50000) (h17 : 17 ≤ w.heap.size) :
    Calls Tryz.prog 169 #[.pointer (some ⟨s, 0, none⟩), .int .i64 n] w fun e w' => ∃ b o c st', e = .returned (.slice (some ⟨b, o, none⟩) n c) ∧ SkNew w w' s st st' b o n c := by
  match st, h, hb with
  | some (i, A, l, c), h, hb =>
    have HI := Lib.hid (stk_inner s i A l c n w h hn0 hb h17)
    obtain ⟨h1, h2, h3, h4, h5, h6, h7, h8, h9⟩ := h
    clear h7 h8 h9 hb
    go_enter Tryz.func169, Tryz.ntmps169
    go_wp2_with fail
    refine HI.out.mono ?_
    rintro e w1 ⟨b, o, st', rfl, hr⟩
    have HR := Lib.hid hr
    clear hr
    go_wp2_with fail
    go_ret
    exact ⟨b, o, n, st', rfl, HR.out⟩
  | none, h, hb =>
    have HS := Lib.hid h
    obtain ⟨h1, h2, h3⟩ := h
    have hb' : n ≤ 50000 := by have : 0 + n ≤ 50000 := hb; omega
    have hs0 := h2.lt
    by_cases hn4 : n ≤ 4
    · have i1 : (n : Int) ≤ 4 := by omega
      have i0 : 0 < (n : Int) := by omega
      have HG := Lib.hid (grow85 none 0 0 n w (.inl rfl) hn0 (by omega) h17)
      clear hb
      go_enter Tryz.func169, Tryz.ntmps169
      go_wp2_with fail
      refine HG.out.mono ?_
      rintro e w1 ⟨b, o, c', rfl, g1, g2, g3, g4⟩
      have hbn : w.heap.size ≤ b := by
        rcases g4 with ⟨e, -⟩ | ⟨e, -⟩
        · cases e
        · exact e
      have hcw := g1.isW 0 (by omega)
      have cw := hcw.cell
      have fw := g1.plain.free o
      rw [Nat.add_zero] at cw
      have i2 : (n : Int) ≤ (c' : Int) := by omega
      have K := Lib.hid g3
      clear g3 g4 HG
      go_wp2_with fail
      go_ret
      have k4 := Chg.setW (S := Rng b o c') (Chg.refl _ w1) hcw (show 11259375 < WB by decide) (fun _ => ⟨rfl, by omega, by omega⟩)
      rw [Nat.add_zero] at k4
      refine ⟨b, o, c', none, rfl, (g1.len (by omega)).chg k4, ((HS.out.chg K.out (fun _ _ _ f => f)).chg k4 ?_), Nat.le_refl _, ?_, trivial, ?_, ?_, ?_⟩
      · rintro x p e f
        have e : x = s := e
        have := f.1; omega
      · show 0 ≤ 0 + n + 3; omega
      · rintro x p ⟨rfl, _, _⟩ f
        have f : x = s := f
        omega
      · rintro x p ⟨rfl, _, _⟩
        exact .inr hbn
      · refine (K.out.no).then k4 ?_
        rintro x p hx ⟨rfl, _, _⟩
        omega
    · have i1 : ¬ (n : Int) ≤ 4 := by omega
      have f0 := h2.free 0
      clear hb
      go_enter Tryz.func169, Tryz.ntmps169
      go_upto_region 11 with fail
      obtain ⟨i, hi⟩ : ∃ i, i = w.heap.size := ⟨_, rfl⟩
      rw [← hi]
      have k1 := (Chg.refl (Blk s) w).setO (.pointer (some ⟨i, 0, none⟩)) h3 (by simp) (by simp) (fun _ => rfl)
      have k2 := k1.alloc (.cells #[.slice none 0 0] 260)
      have g0 := World.cell?_alloc_new (w := w.setCell ⟨s, 0, none⟩ (.pointer (some ⟨i, 0, none⟩))) #[.slice none 0 0] 260 0
      have gp := Plain.new (w.setCell ⟨s, 0, none⟩ (.pointer (some ⟨i, 0, none⟩))) #[.slice none 0 0] 260
      rw [show (w.setCell ⟨s, 0, none⟩ (.pointer (some ⟨i, 0, none⟩))).heap.size = i by rw [hi]; simp] at g0 gp
      have hsk : Sk ((w.setCell ⟨s, 0, none⟩ (.pointer (some ⟨i, 0, none⟩))).alloc (.cells #[.slice none 0 0] 260)) s (some (i, none, 0, 0)) :=
        ⟨h1, k2.plain _ h2, (((Chg.refl No _).alloc _).cell s 0 (by simpa using hs0) (fun f => f)).trans (World.cell?_setCell_same _ _ _ h3), by omega, by omega, gp, g0, .inl rfl, fun x o f => f.elim⟩
      have K := Lib.hid k2
      generalize (w.setCell ⟨s, 0, none⟩ (.pointer (some ⟨i, 0, none⟩))).alloc (.cells #[.slice none 0 0] 260) = w1 at hsk K ⊢
      have hw1 : w.heap.size ≤ w1.heap.size := K.out.size
      have HI := Lib.hid (stk_inner s i none 0 0 n w1 hsk hn0 (by omega) (by omega))
      have HK := Lib.hid hi
      clear hsk hi k1 k2 g0 gp
      go_wp2_with fail
      refine HI.out.mono ?_
      rintro e w2 ⟨b, o, st', rfl, hr⟩
      have HR := Lib.hid hr
      clear hr
      go_wp2_with fail
      go_ret
      have R := HR.out
      refine ⟨b, o, n, st', rfl, R.nw, R.sk, Nat.zero_le _, by have := R.hi; exact this, ?_, R.out, ?_, ?_⟩
      · refine SkR.trans (m := w.heap.size) (m' := w1.heap.size) (s2 := some (i, none, 0, 0)) ⟨by have := HK.out; omega, fun x o f => f.elim⟩ R.rel hw1
      · intro x p f
        rcases R.own x p f with (g | g | g) | g
        · exact .inl g
        · right; have := HK.out; omega
        · exact g.elim
        · right; omega
      · refine K.out.then R.chg ?_
        rintro x p hx (g | g | g)
        · exact g
        · have := HK.out; omega
        · exact g.elim
set_option maxHeartbeats 1000000 in
theorem greaterThan_ok (x1 x2 y1 y2 : Nat) (w : World) (hx : x2 < WB) (hy : y2 < WB) :
    Calls Tryz.prog 279 #[.int .u64 x1, .int .u64 x2, .int .u64 y1, .int .u64 y2] w fun e w' => e = .returned (.bool (decide (y1 * WB + y2 < x1 * WB + x2))) ∧ w = w' := by
  rcases Nat.lt_trichotomy y1 x1 with h | h | h
  · have d : decide (y1 < x1) = true := decide_eq_true h
    have r : decide (y1 * WB + y2 < x1 * WB + x2) = true := decide_eq_true (by
      have : (y1 + 1) * WB ≤ x1 * WB := Nat.mul_le_mul_right _ h
      rw [Nat.add_mul] at this; omega)
    rw [r]
    clear hx hy r
    go_enter Tryz.func279, Tryz.ntmps279
    go_wp2_with fail
    go_ret
    exact ⟨rfl, rfl⟩
  · subst h
    have d : decide (y1 < y1) = false := decide_eq_false (by omega)
    have e : ((y1 : Int) == (y1 : Int)) = true := by simp
    by_cases h2 : y2 < x2
    · have d2 : decide (y2 < x2) = true := decide_eq_true h2
      have r : decide (y1 * WB + y2 < y1 * WB + x2) = true := decide_eq_true (by omega)
      rw [r]
      clear hx hy r
      go_enter Tryz.func279, Tryz.ntmps279
      go_wp2_with fail
      go_ret
      exact ⟨rfl, rfl⟩
    · have d2 : decide (y2 < x2) = false := decide_eq_false h2
      have r : decide (y1 * WB + y2 < y1 * WB + x2) = false := decide_eq_false (by omega)
      rw [r]
      clear hx hy r
      go_enter Tryz.func279, Tryz.ntmps279
      go_wp2_with fail
      go_ret
      exact ⟨rfl, rfl⟩
  · have d : decide (y1 < x1) = false := decide_eq_false (by omega)
    have e : ((x1 : Int) == (y1 : Int)) = false := beq_eq_false_iff_ne.2 (by omega)
    have r : decide (y1 * WB + y2 < x1 * WB + x2) = false := decide_eq_false (by
      have : (x1 + 1) * WB ≤ y1 * WB := Nat.mul_le_mul_right _ h
      rw [Nat.add_mul] at this; omega)
    rw [r]
    clear hx hy r
    go_enter Tryz.func279, Tryz.ntmps279
    go_wp2_with fail
    go_ret
    exact ⟨rfl, rfl⟩
/-- The state of long division: k figures of the quotient are still to come. -/
def DvI (wr : World) (qb qo m ub uo n U V k uj : Nat) : Prop :=
  (k = m + 1 ∧ uj = 0 ∧ Val wr ub uo (m + n) = U ∧ Val wr ub (uo + m) n < V) ∨
  (k ≤ m ∧ uj = wd wr ub (uo + (k + n - 1)) ∧ Val wr ub (uo + k) n < V ∧ U = Val wr qb (qo + k) (m - k) * WB ^ k * V + Val wr ub uo (k + n) ∧ Val wr ub uo (m + n) = Val wr ub uo (k + n))
theorem DvI.step {wr wf : World} {qb qo m ub uo n U V j uj qd A T : Nat} (h : DvI wr qb qo m ub uo n U V (j + 1) uj) (hj : j < m) (hV : V ≤ WB ^ n)
    (hT : T = Val wr ub (uo + j) (n + 1)) (hA : A = Val wf ub (uo + j) (n + 1)) (hqd : T = qd * V + A) (hAV : A < V)
    (hu1 : ∀ i, i < j → wd wf ub (uo + i) = wd wr ub (uo + i)) (hu2 : ∀ i, j + n + 1 ≤ i → i < m + n → wd wf ub (uo + i) = wd wr ub (uo + i))
    (hq : ∀ i, j < i → i < m → wd wf qb (qo + i) = wd wr qb (qo + i)) (hqj : wd wf qb (qo + j) = qd) (hn : 0 < n) :
    DvI wf qb qo m ub uo n U V j (wd wf ub (uo + (j + n - 1))) := by
  rcases h with ⟨h, _⟩ | ⟨-, -, -, h4, h5⟩
  · omega
  right
  have hA2 : A = Val wf ub (uo + j) n + wd wf ub (uo + j + n) * WB ^ n := by rw [hA, Val_succ]
  have htop : wd wf ub (uo + j + n) = 0 := by
    rcases Nat.eq_zero_or_pos (wd wf ub (uo + j + n)) with e | e
    · exact e
    · have : 1 * WB ^ n ≤ wd wf ub (uo + j + n) * WB ^ n := Nat.mul_le_mul_right _ e
      omega
  rw [htop, Nat.zero_mul, Nat.add_zero] at hA2
  have c1 : Val wf ub uo j = Val wr ub uo j := Val_congr hu1
  have s1 := Val_split wr ub uo j (n + 1)
  have s2 := Val_split wf ub uo j n
  have s3 := Val_split wf ub uo j (n + 1)
  rw [← hT] at s1
  rw [← hA2, c1] at s2
  rw [← hA, c1] at s3
  have e1 : j + 1 + n = j + (n + 1) := by omega
  rw [e1] at h4 h5
  have q1 : Val wf qb (qo + j) (m - j) = qd + WB * Val wr qb (qo + (j + 1)) (m - (j + 1)) := by
    rw [show m - j = (m - (j + 1)) + 1 by omega, Val_low, hqj]
    rw [show qo + j + 1 = qo + (j + 1) by omega]
    rw [show Val wf qb (qo + (j + 1)) (m - (j + 1)) = Val wr qb (qo + (j + 1)) (m - (j + 1)) from Val_congr fun i hi => by
      rw [show qo + (j + 1) + i = qo + (j + 1 + i) by omega]; exact hq _ (by omega) (by omega)]
  refine ⟨by omega, rfl, by rw [← hA2]; exact hAV, ?_, ?_⟩
  · rw [h4, q1, s1, s2, hqd, Nat.pow_succ]
    grind
  · have s4 := Val_split wr ub uo (j + (n + 1)) (m - (j + 1))
    have s5 := Val_split wf ub uo (j + (n + 1)) (m - (j + 1))
    rw [show j + (n + 1) + (m - (j + 1)) = m + n by omega] at s4 s5
    have c2 : Val wf ub (uo + (j + (n + 1))) (m - (j + 1)) = Val wr ub (uo + (j + (n + 1))) (m - (j + 1)) := Val_congr fun i hi => by
      rw [show uo + (j + (n + 1)) + i = uo + (j + (n + 1) + i) by omega]; exact hu2 _ (by omega) (by omega)
    rw [c2] at s5
    omega
theorem Val_top2 (w : World) (b o n : Nat) (h2 : 2 ≤ n) : Val w b o n = (wd w b (o + (n - 1)) * WB + wd w b (o + (n - 2))) * WB ^ (n - 2) + Val w b o (n - 2) := by
  obtain ⟨p, rfl⟩ : ∃ p, n = p + 2 := ⟨n - 2, by omega⟩
  rw [show p + 2 = (p + 1) + 1 from rfl, Val_succ, Val_succ, show p + 1 + 1 - 1 = p + 1 by omega, show p + 1 + 1 - 2 = p by omega, Nat.pow_succ]
  grind
/-- The leading words of the two numbers. -/
structure Ld (T V P uj u1 u0 v1 v2 : Nat) : Prop where
  hT : ∃ l, l < P ∧ T = ((uj * WB + u1) * WB + u0) * P + l
  hV : ∃ l, l < P ∧ V = (v1 * WB + v2) * P + l
  l2 : v2 < WB
  l0 : u0 < WB
  l1 : u1 < WB
theorem Ld.same {T V P uj u1 u0 v1 v2 : Nat} (h : Ld T V P uj u1 u0 v1 v2) (he : uj = v1) (hv : WB ≤ 2 * v1) (hb : T < V * WB) : Gs T V (WB - 1) := by
  obtain ⟨⟨l, h1, h2⟩, ⟨l', h3, h4⟩, l2, l0, l1⟩ := h
  refine ⟨?_, ?_⟩
  · rw [Nat.sub_add_cancel (Nat.le_of_lt (show 1 < WB by decide)), Nat.mul_comm]; exact hb
  · have e1 : (v1 * WB + v2) * P + l' < (v1 + 1) * (WB * P) := by
      have a : (v2 + 1) * P ≤ WB * P := Nat.mul_le_mul_right _ l2
      grind
    refine dv_same (v1 := v1) (B := WB) (P := WB * P) hv (by rw [h4]; exact e1) ?_
    rw [h2, he]
    grind
theorem Ld.init {T V P uj u1 u0 v1 v2 : Nat} (h : Ld T V P uj u1 u0 v1 v2) (hv : 0 < v1) : T < (divQ uj u1 v1 + 1) * V := by
  obtain ⟨⟨l, h1, h2⟩, ⟨l', h3, h4⟩, l2, l0, l1⟩ := h
  refine dv_first (B := WB) (P := P) hv ?_ ?_
  · rw [h4]; grind
  · rw [h2]
    have a : (u0 + 1) * P ≤ WB * P := Nat.mul_le_mul_right _ l0
    grind
theorem Ld.step {T V P uj u1 u0 v1 v2 qh rh : Nat} (h : Ld T V P uj u1 u0 v1 v2) (he : qh * v1 + rh = uj * WB + u1) (ht : rh * WB + u0 < qh * v2) : T < qh * V := by
  obtain ⟨⟨l, h1, h2⟩, ⟨l', h3, h4⟩, l2, l0, l1⟩ := h
  refine dv_step (V2 := v1 * WB + v2) (U3 := (uj * WB + u1) * WB + u0) (P := P) ?_ ?_ ?_
  · rw [← he]; grind
  · rw [h4]; omega
  · rw [h2, Nat.add_mul _ 1]; omega
theorem Ld.done {T V P uj u1 u0 v1 v2 qh rh : Nat} (h : Ld T V P uj u1 u0 v1 v2) (he : qh * v1 + rh = uj * WB + u1) (ht : qh * v2 ≤ rh * WB + u0) (hq : qh < WB) (hv : 0 < v1) : (qh - 1) * V ≤ T := by
  obtain ⟨⟨l, h1, h2⟩, ⟨l', h3, h4⟩, l2, l0, l1⟩ := h
  refine dv_upper (V2 := v1 * WB + v2) (U3 := (uj * WB + u1) * WB + u0) (P := P) ?_ ?_ ?_ ?_
  · rw [← he]; grind
  · have : 1 * WB ≤ v1 * WB := Nat.mul_le_mul_right _ hv
    omega
  · rw [h4, Nat.add_mul _ 1]; omega
  · rw [h2]; omega
/-- One less, on words. -/
theorem ref_arith {qh rh x1 x2 u0 v1 v2 : Nat} (ht : rh * WB + u0 < x1 * WB + x2) (hx : x1 * WB + x2 = qh * v2) (hq : qh < WB) (hr : rh < WB) (hv1 : v1 < WB) (hv2 : v2 < WB) (hx1 : x1 < WB) (hx2 : x2 < WB) :
    ∃ q1 rr y1 y2 : Nat, qh = q1 + 1 ∧ IntKind.u64.wrap ((qh : Int) - 1) = (q1 : Int) ∧ IntKind.u64.wrap ((rh : Int) + (v1 : Int)) = (rr : Int) ∧ rr < WB ∧ ((decide (rr < v1) = true ∧ WB ≤ rh + v1) ∨ (decide (rr < v1) = false ∧ rr = rh + v1)) ∧
      IntKind.u64.wrap ((x2 : Int) - (v2 : Int)) = (y2 : Int) ∧ y2 < WB ∧ ((decide (x2 < v2) = true ∧ IntKind.u64.wrap ((x1 : Int) - 1) = (y1 : Int)) ∨ (decide (x2 < v2) = false ∧ y1 = x1)) ∧ y1 * WB + y2 = q1 * v2 ∧ y1 < WB := by
  have hq0 : 0 < qh := by
    rcases Nat.eq_zero_or_pos qh with e | e
    · rw [e, Nat.zero_mul] at hx; omega
    · exact e
  obtain ⟨q1, rfl⟩ : ∃ q1, qh = q1 + 1 := ⟨qh - 1, by omega⟩
  rw [Nat.add_mul, Nat.one_mul] at hx
  have w1 : IntKind.u64.wrap (((q1 + 1 : Nat) : Int) - 1) = (q1 : Int) := by
    rw [IntKind.wrap_u64]; unfold WB at hq; omega
  obtain ⟨rr, hrr, hrr2, hrr3⟩ : ∃ rr : Nat, IntKind.u64.wrap ((rh : Int) + (v1 : Int)) = (rr : Int) ∧ rr < WB ∧ ((decide (rr < v1) = true ∧ WB ≤ rh + v1) ∨ (decide (rr < v1) = false ∧ rr = rh + v1)) := by
    rcases Nat.lt_or_ge (rh + v1) WB with h | h
    · exact ⟨rh + v1, by rw [IntKind.wrap_u64]; unfold WB at h; omega, h, .inr ⟨decide_eq_false (by omega), rfl⟩⟩
    · exact ⟨rh + v1 - WB, by rw [IntKind.wrap_u64]; unfold WB at *; omega, by omega, .inl ⟨decide_eq_true (by omega), h⟩⟩
  rcases Nat.lt_or_ge x2 v2 with h | h
  · have hx10 : 0 < x1 := by
      rcases Nat.eq_zero_or_pos x1 with e | e
      · rw [e, Nat.zero_mul] at hx; omega
      · exact e
    obtain ⟨y1, rfl⟩ : ∃ y1, x1 = y1 + 1 := ⟨x1 - 1, by omega⟩
    refine ⟨q1, rr, y1, x2 + WB - v2, rfl, w1, hrr, hrr2, hrr3, ?_, by omega, .inl ⟨decide_eq_true h, ?_⟩, ?_, by omega⟩
    · rw [IntKind.wrap_u64]; unfold WB at *; omega
    · rw [IntKind.wrap_u64]; unfold WB at hx1; omega
    · rw [Nat.add_mul, Nat.one_mul] at hx; omega
  · refine ⟨q1, rr, x1, x2 - v2, rfl, w1, hrr, hrr2, hrr3, ?_, by omega, .inr ⟨decide_eq_false (by omega), rfl⟩, by omega, hx1⟩
    rw [IntKind.wrap_u64]; unfold WB at *; omega
theorem ld_alg (uj u1 u0 W P l : Nat) : uj * (W * W * P) + ((u1 * W + u0) * P + l) = ((uj * W + u1) * W + u0) * P + l := by grind
theorem WB_two_pow {n : Nat} (h : 2 ≤ n) : WB ^ n = WB * WB * WB ^ (n - 2) := by
  obtain ⟨p, rfl⟩ : ∃ p, n = p + 2 := ⟨n - 2, by omega⟩
  rw [show p + 2 - 2 = p by omega, Nat.pow_succ, Nat.pow_succ, Nat.mul_comm (WB ^ p * WB), Nat.mul_comm (WB ^ p), Nat.mul_assoc]
theorem skLen_cut {m : Nat} {s1 s2 : Option (Nat × Option Addr × Nat × Nat)} (h : SkR m s1 s2) : skLen (skCut (skLen s1) s2) = skLen s1 := by
  match s1, s2, h with
  | none, none, _ => rfl
  | none, some (i, A, _, _), _ => rfl
  | some (i, A, _, c), some (i', A', _, c'), _ => rfl
/-- The places that divBasic writes, but for the stack. -/
def DvS (qb qo m ub uo L hb ho n : Nat) : Nat → Nat → Prop := fun x o => Rng qb qo m x o ∨ Rng ub uo L x o ∨ Rng hb ho (n + 1) x o
set_option maxRecDepth 100000 in
set_option maxHeartbeats 8000000 in
theorem divBasic_ok (qb qo m qc s ub uo uc vb vo n vc L : Nat) (st : Option (Nat × Option Addr × Nat × Nat)) (w : World) (hL : L = m + n) (hq : NW w qb qo m qc) (hu : NW w ub uo L uc) (hv : NW w vb vo n vc) (hn2 : 2 ≤ n) (hn : n ≤ 1000) (hm0 : 0 < m) (hm : m ≤ 1000)
    (hs : Sk w s st) (hl : skLen st ≤ 10000) (hqu : qb ≠ ub) (hqv : qb ≠ vb) (huv : ub ≠ vb) (hqs : ∀ x p, SkF s st x p → x ≠ qb ∧ x ≠ ub) (hvt : ∀ i, i < n → ¬ SkT s st vb (vo + i))
    (hv1 : WB ≤ 2 * wd w vb (vo + (n - 1))) (hu1 : wd w ub (uo + (m + n - 1)) < wd w vb (vo + (n - 1))) (h17 : 17 ≤ w.heap.size) :
    Calls Tryz.prog 240 #[.slice (some ⟨qb, qo, none⟩) m qc, .pointer (some ⟨s, 0, none⟩), .slice (some ⟨ub, uo, none⟩) L uc, .slice (some ⟨vb, vo, none⟩) n vc] w fun e w' =>
      e = .returned (.tuple #[]) ∧ Val w ub uo L = Val w' qb qo m * Val w vb vo n + Val w' ub uo L ∧ Val w' ub uo L < Val w vb vo n ∧
      (∃ st', Sk w' s st' ∧ skLen st' = skLen st ∧ SkR w.heap.size st st') ∧ Chg (fun x o => SkT s st x o ∨ Rng qb qo m x o ∨ Rng ub uo L x o) w w' := by
  obtain ⟨v1, hv1e⟩ : ∃ v1, v1 = wd w vb (vo + (n - 1)) := ⟨_, rfl⟩
  rw [← hv1e] at hv1 hu1
  have hv1p : 0 < v1 := by unfold WB at hv1; omega
  have hv1W : v1 < WB := by rw [hv1e]; exact (hv.isW _ (by have := hv.le; omega)).lt
  have HSave := Lib.hid (stk_save s st w hs)
  have HNat := Lib.hid (stk_nat s st (n + 1) w hs (by omega) (by omega) h17)
  have zL : (L : Int) - (n : Int) = (m : Int) := by omega
  have HQ := Lib.hid hq
  have HU := Lib.hid hu
  have HV := Lib.hid hv
  have HX := Lib.hid (And.intro hqu (And.intro hqv (And.intro huv (And.intro hqs (And.intro hvt (And.intro hL (And.intro hu1 (And.intro hv1 (And.intro hv1e (And.intro hl h17))))))))))
  have HS := Lib.hid hs
  have hqle := hq.le
  have hule := hu.le
  have hvle := hv.le
  clear hq hu hv hs hl hqu hqv huv hqs hvt hv1 hu1 h17 hv1e hL
  go_enter_defers Tryz.func240, Tryz.ntmps240
  go_wp2_with fail
  refine HSave.out.mono ?_
  rintro e w0 ⟨rfl, rfl⟩
  go_wp2_with fail
  refine HNat.out.mono ?_
  rintro e w1 ⟨hb, ho, hc, st1, rfl, hnew⟩
  have HN := Lib.hid hnew
  have hhle := hnew.nw.le
  have hvK : ∀ i, i < n → wd w1 vb (vo + i) = wd w vb (vo + i) := fun i hi => wd_congr (hnew.chg.cell _ _ HV.out.lt (HX.out.2.2.2.2.1 i hi))
  have huK : ∀ i, i < L → wd w1 ub (uo + i) = wd w ub (uo + i) := fun i hi => wd_congr (hnew.chg.cell _ _ HU.out.lt (fun f => (HX.out.2.2.2.1 _ _ (SkT.f f)).2 rfl))
  have hqK : ∀ i, i < m → wd w1 qb (qo + i) = wd w qb (qo + i) := fun i hi => wd_congr (hnew.chg.cell _ _ HQ.out.lt (fun f => (HX.out.2.2.2.1 _ _ (SkT.f f)).1 rfl))
  have Q1 := Lib.hid (HQ.out.chg hnew.chg)
  have U1 := Lib.hid (HU.out.chg hnew.chg)
  have V1 := Lib.hid (HV.out.chg hnew.chg)
  have hdis : ∀ x o, Rng hb ho hc x o → x ≠ qb ∧ x ≠ ub ∧ ∀ i, i < n → ¬ (x = vb ∧ o = vo + i) := by
    intro x o f
    have h1 := hnew.own x o f
    refine ⟨?_, ?_, ?_⟩
    · rcases h1 with h1 | h1
      · exact (HX.out.2.2.2.1 _ _ (SkT.f h1)).1
      · have := HQ.out.lt; omega
    · rcases h1 with h1 | h1
      · exact (HX.out.2.2.2.1 _ _ (SkT.f h1)).2
      · have := HU.out.lt; omega
    · rintro i hi ⟨e1, e2⟩
      rcases h1 with h1 | h1
      · rw [e1, e2] at h1; exact HX.out.2.2.2.2.1 i hi h1
      · have := HV.out.lt; omega
  have HD := Lib.hid hdis
  have HK := Lib.hid (And.intro hvK (And.intro huK hqK))
  have cv1 := (V1.out.isW (n - 1) (by omega)).cell
  rw [hvK (n - 1) (by omega), ← HX.out.2.2.2.2.2.2.2.2.1] at cv1
  have zn1 : ((n : Int) - 1).toNat = n - 1 := by omega
  have i1 : (n : Int) - 1 < (n : Int) := by omega
  have i2 : 0 ≤ (n : Int) - 1 := by omega
  have hw17 := HX.out.2.2.2.2.2.2.2.2.2.2
  clear hnew hdis hvK huK hqK
  go_wp2_with fail
  refine (reciprocalWord v1 _ hv1p hv1W).mono ?_
  rintro e w2 ⟨kd, rfl, rfl⟩
  obtain ⟨UU, hUU⟩ : ∃ UU, UU = Val w ub uo L := ⟨_, rfl⟩
  obtain ⟨VV, hVV⟩ : ∃ VV, VV = Val w vb vo n := ⟨_, rfl⟩
  have HUV := Lib.hid (And.intro hUU hVV)
  have hI0 : DvI (w1.drewN kd) qb qo m ub uo n UU VV (m + 1) 0 := by
    refine .inl ⟨rfl, rfl, ?_, ?_⟩
    · rw [hUU, ← HX.out.2.2.2.2.2.1]
      exact Val_congr (w := w) HK.out.2.1
    · have e1 : Val (w1.drewN kd) ub (uo + m) n = Val w ub (uo + m) n := Val_congr (w := w) fun i hi => by
        rw [Nat.add_assoc]; exact HK.out.2.1 _ (by have := HX.out.2.2.2.2.2.1; omega)
      rw [e1, hVV]
      have t1 := Val_succ w ub (uo + m) (n - 1)
      have t2 := Val_succ w vb vo (n - 1)
      rw [show n - 1 + 1 = n by omega] at t1 t2
      have b1 : Val w ub (uo + m) (n - 1) < WB ^ (n - 1) := Val_lt fun i hi => by
        rw [Nat.add_assoc]; exact HU.out.isW _ (by have := HX.out.2.2.2.2.2.1; omega)
      have b2 : (wd w ub (uo + m + (n - 1)) + 1) * WB ^ (n - 1) ≤ wd w vb (vo + (n - 1)) * WB ^ (n - 1) := Nat.mul_le_mul_right _ (by
        have := HX.out.2.2.2.2.2.2.1
        rw [HX.out.2.2.2.2.2.2.2.2.1, show uo + (m + n - 1) = uo + m + (n - 1) by omega] at this
        exact this)
      rw [Nat.add_mul] at b2
      omega
  have HI0 := Lib.hid hI0
  clear hI0 hUU hVV zn1 cv1
  go_wp2_with fail
  go_loopg [13, 14] (m + 1) (fun gk ujv jv wr => ∃ k uj : Nat, k ≤ m + 1 ∧ ujv = .int .u64 uj ∧ jv = .int .i64 ((k : Int) - 1) ∧ Hid (DvI wr qb qo m ub uo n UU VV k uj) ∧ Hid (Chg (DvS qb qo m ub uo L hb ho n) w1 wr) ∧ Hid (k ≤ gk) ∧ Hid (k = m + 1 → wd wr ub (uo + (m + n - 1)) < v1))
  case atStart => exact ⟨m + 1, 0, by omega, rfl, by first | rfl | (congr 1; omega), HI0, Lib.hid ((Chg.refl _ _).drewN _), Lib.hid (Nat.le_refl _), Lib.hid (fun _ => by have h1 := HK.out.2.1 (m + n - 1) (by have := HX.out.2.2.2.2.2.1; omega); have h2 := HX.out.2.2.2.2.2.2.1; rw [← h1] at h2; exact h2)⟩
  case round =>
    obtain ⟨k, uj, hk, rfl, rfl, hI, hC, hgk, htop⟩ := hrel
    rcases Nat.eq_zero_or_pos k with hk0 | hk0
    · subst hk0
      go_wp2_with fail
      obtain ⟨g1, g2, g3⟩ : Val wr ub uo n < VV ∧ UU = Val wr qb qo m * VV + Val wr ub uo n ∧ Val wr ub uo L = Val wr ub uo n := by
        have hLe := HX.out.2.2.2.2.2.1
        rcases hI.out with ⟨h, _⟩ | ⟨-, -, g1, g2, g3⟩
        · omega
        · rw [Nat.pow_zero, Nat.mul_one, Nat.sub_zero, Nat.zero_add] at g2
          rw [Nat.zero_add, ← hLe] at g3
          exact ⟨g1, g2, g3⟩
      have hsd : ∀ x, SkC s st1 x → x ≠ qb ∧ x ≠ ub := fun x hx => by
        rcases HN.out.rel.f (SkC.f hx 0) with f | f
        · exact HX.out.2.2.2.1 _ _ f
        · have := HQ.out.lt; have := HU.out.lt; omega
      have hsk := HN.out.sk.chg hC.out (fun x o hx f => by
        rcases f with f | f | f
        · exact (hsd x hx).1 f.1
        · exact (hsd x hx).2 f.1
        · exact HN.out.out x o ⟨f.1, f.2.1, by have := f.2.2; omega⟩ (SkC.t hx o))
      refine leaves_cons (f := 167) (args := #[.pointer (some ⟨s, 0, none⟩), .int .i64 (skLen st : Nat)]) (by simp) (by simp [go_sem]) ?_
      refine (stk_restore_d s (skLen st) st1 wr .returning hsk HN.out.lo).mono ?_
      rintro e u' w2 ⟨rfl, rfl, hsk2, hck⟩
      have hwu : Val w2 ub uo L = Val wr ub uo L := Val_congr fun i hi => wd_congr (hck.cell _ _ (hC.out.plain _ U1.out.plain).lt (fun f => (hsd _ f).2 rfl))
      have hwq : Val w2 qb qo m = Val wr qb qo m := Val_congr fun i hi => wd_congr (hck.cell _ _ (hC.out.plain _ Q1.out.plain).lt (fun f => (hsd _ f).1 rfl))
      refine ⟨_, results_none rfl _ _ _, rfl, ?_, ?_, ⟨skCut (skLen st) st1, hsk2, skLen_cut HN.out.rel, HN.out.rel.cut _⟩, ?_⟩
      · rw [hwu, hwq, g3, ← HUV.out.1, ← HUV.out.2]; exact g2
      · rw [hwu, g3, ← HUV.out.2]; exact g1
      · refine ((HN.out.chg.mono (fun x o _ f => .inl f)).then hC.out (fun x o hx f => ?_)).then hck (fun x o hx f => ?_)
        · rcases f with f | f | f
          · exact .inr (.inl f)
          · exact .inr (.inr f)
          · rcases HN.out.own x o ⟨f.1, f.2.1, by have := f.2.2; omega⟩ with g | g
            · exact .inl g
            · omega
        · rcases HN.out.rel.t HN.out.lo (SkC.t f o) with g | g
          · exact .inl g
          · omega
    obtain ⟨j, rfl⟩ : ∃ j, k = j + 1 := ⟨k - 1, by omega⟩
    have ek : ((j + 1 : Nat) : Int) - 1 = (j : Int) := by omega
    rw [ek]
    clear HI0 ek
    obtain ⟨g1, rfl⟩ : ∃ g1, gk = g1 + 1 := ⟨gk - 1, by have := hgk.out; omega⟩
    have hLe := HX.out.2.2.2.2.2.1
    have hjm : j ≤ m := by omega
    obtain ⟨a1, ha1⟩ : ∃ a1, a1 = j + n - 1 := ⟨_, rfl⟩
    obtain ⟨a0, ha0⟩ : ∃ a0, a0 = j + n - 2 := ⟨_, rfl⟩
    have U2 := Lib.hid (U1.out.chg hC.out)
    have V2 := Lib.hid (V1.out.chg hC.out)
    have hvr : ∀ i, i < n → wd wr vb (vo + i) = wd w vb (vo + i) := fun i hi => (wd_congr (hC.out.cell _ _ V1.out.lt (fun f => by
      rcases f with f | f | f
      · exact HX.out.2.1 f.1.symm
      · exact HX.out.2.2.1 f.1.symm
      · exact (HD.out _ _ ⟨f.1, f.2.1, by have := f.2.2; omega⟩).2.2 i hi ⟨rfl, rfl⟩))).trans (HK.out.1 i hi)
    have HVr := Lib.hid hvr
    obtain ⟨u1, hu1⟩ : ∃ u1, u1 = wd wr ub (uo + a1) := ⟨_, rfl⟩
    obtain ⟨u0, hu0⟩ : ∃ u0, u0 = wd wr ub (uo + a0) := ⟨_, rfl⟩
    obtain ⟨v2, hv2⟩ : ∃ v2, v2 = wd w vb (vo + (n - 2)) := ⟨_, rfl⟩
    have cu1 := (U2.out.isW a1 (by omega)).cell
    have cu0 := (U2.out.isW a0 (by omega)).cell
    have cv2 := (V2.out.isW (n - 2) (by omega)).cell
    have lu1 := (U2.out.isW a1 (by omega)).lt
    have lu0 := (U2.out.isW a0 (by omega)).lt
    have lv2 := (V2.out.isW (n - 2) (by omega)).lt
    rw [hvr _ (by omega)] at cv2 lv2
    rw [← hu1] at cu1 lu1
    rw [← hu0] at cu0 lu0
    rw [← hv2] at cv2 lv2
    obtain ⟨T, hT⟩ : ∃ T, T = uj * WB ^ n + Val wr ub (uo + j) n := ⟨_, rfl⟩
    have hVV : VV = Val wr vb vo n := by rw [HUV.out.2]; exact (Val_congr hvr).symm
    have hLd : Ld T VV (WB ^ (n - 2)) uj u1 u0 v1 v2 := by
      refine ⟨⟨Val wr ub (uo + j) (n - 2), Val_lt fun i hi => by rw [Nat.add_assoc]; exact U2.out.isW _ (by omega), ?_⟩, ⟨Val wr vb vo (n - 2), Val_lt fun i hi => V2.out.isW _ (by omega), ?_⟩, lv2, lu0, lu1⟩
      · rw [hT, Val_top2 wr ub (uo + j) n hn2, hu1, hu0, ha1, ha0, show uo + j + (n - 1) = uo + (j + n - 1) by omega, show uo + j + (n - 2) = uo + (j + n - 2) by omega]
        rw [WB_two_pow hn2]; exact ld_alg _ _ _ _ _ _
      · rw [hVV, Val_top2 wr vb vo n hn2, hvr _ (by omega), hvr _ (by omega), hv2, HX.out.2.2.2.2.2.2.2.2.1]
    have hVn : VV < WB ^ n := by rw [hVV]; exact Val_lt fun i hi => V2.out.isW _ (by omega)
    have hTB : T < VV * WB ∧ uj ≤ v1 ∧ uj < WB ∧ (j = m → uj = 0 ∧ u1 < v1 ∧ T < VV) ∧ (j < m → T = Val wr ub (uo + j) (n + 1)) := by
      rcases hI.out with ⟨h1, h2, h3, h4⟩ | ⟨h1, h2, h3, -, -⟩
      · obtain rfl : j = m := by omega
        have hT0 : T = Val wr ub (uo + j) n := by rw [hT, h2, Nat.zero_mul, Nat.zero_add]
        have htp := htop.out rfl
        rw [← ha1, ← hu1] at htp
        have hx : VV * 1 ≤ VV * WB := Nat.mul_le_mul_left _ (by decide)
        exact ⟨by omega, by omega, by rw [h2]; decide, fun _ => ⟨h2, htp, by omega⟩, fun h => by omega⟩
      · rw [show j + 1 + n - 1 = j + n by omega] at h2
        have hT1 : T = Val wr ub (uo + j) (n + 1) := by rw [hT, Val_succ, h2, Nat.add_comm, Nat.add_assoc]
        have lo := Val_low wr ub (uo + j) n
        have b0 := (U2.out.isW j (by omega)).lt
        have hVp : 0 < VV := by omega
        rw [show uo + j + 1 = uo + (j + 1) by omega] at lo
        have hm1 : WB * (Val wr ub (uo + (j + 1)) n + 1) ≤ WB * VV := Nat.mul_le_mul_left _ h3
        rw [Nat.mul_add, Nat.mul_one, Nat.mul_comm WB VV] at hm1
        have r1 := Val_succ wr ub (uo + (j + 1)) (n - 1)
        have r2 := Val_succ wr vb vo (n - 1)
        rw [show n - 1 + 1 = n by omega] at r1 r2
        rw [show uo + (j + 1) + (n - 1) = uo + (j + n) by omega, ← h2] at r1
        have hvt := hvr (n - 1) (by omega)
        rw [← HX.out.2.2.2.2.2.2.2.2.1] at hvt
        rw [hvt, ← hVV] at r2
        have b2 : Val wr vb vo (n - 1) < WB ^ (n - 1) := Val_lt fun i hi => V2.out.isW _ (by omega)
        have b3 : uj ≤ v1 := by
          rcases Nat.lt_or_ge v1 uj with h | h
          · have : (v1 + 1) * WB ^ (n - 1) ≤ uj * WB ^ (n - 1) := Nat.mul_le_mul_right _ h
            rw [Nat.add_mul] at this
            omega
          · exact h
        exact ⟨by omega, b3, by rw [h2]; exact (U2.out.isW (j + n) (by omega)).lt, fun e => by omega, fun _ => hT1⟩
    have HT := Lib.hid hT
    have HLd := Lib.hid hLd
    have HVn := Lib.hid (And.intro hVn hVV)
    have HTB := Lib.hid hTB
    have HA := Lib.hid (And.intro ha1 (And.intro ha0 (And.intro hu1 (And.intro hu0 hv2))))
    have z1 : (j : Int) + (n : Int) - 1 = (a1 : Int) := by omega
    have z0 : (j : Int) + (n : Int) - 2 = (a0 : Int) := by omega
    have i3 : (a1 : Int) < (L : Int) := by omega
    have i4 : (a0 : Int) < (L : Int) := by omega
    have zn2 : ((n : Int) - 2).toNat = n - 2 := by omega
    have i5 : 0 ≤ (n : Int) - 2 := by omega
    have i6 : (n : Int) - 2 < (n : Int) := by omega
    obtain ⟨-, hujv, hujW, -, -⟩ := hTB
    clear hvr ha1 ha0 hu1 hu0 hv2 hT hVV hLd hVn hLe
    go_upto_if 51 with fail
    go_cut [15, 16, 17, 18, 19, 20] from 45 to 200 (fun qv _ _ _ _ _ wx => ∃ qh : Nat, qv = .int .u64 qh ∧ wr = wx ∧ qh < WB ∧ Hid (Gs T VV qh ∧ (j = m → qh = 0)))
    case first =>
      by_cases he : uj = v1
      · have t51 : ((uj : Int) != (v1 : Int)) = false := by simp [he]
        have hne : j ≠ m := fun e => by have := (HTB.out.2.2.2.1 e).1; omega
        have HW1 : Hid ((18446744073709551615 : Int) = ((WB - 1 : Nat) : Int) ∧ WB - 1 < WB) := Lib.hid (by decide)
        have HG := Lib.hid (HLd.out.same he HX.out.2.2.2.2.2.2.2.1 HTB.out.1)
        have HNE := Lib.hid hne
        clear he hne
        go_wp2_with fail
        go_meet
        exact ⟨WB - 1, congrArg (Value.int .u64) HW1.out.1, rfl, HW1.out.2, Lib.hid ⟨HG.out, fun e => absurd e HNE.out⟩⟩
      · have t51 : ((uj : Int) != (v1 : Int)) = true := by simp [bne]; omega
        have hlt : uj < v1 := by omega
        clear he
        go_wp2_with fail
        refine (divWW' uj u1 v1 (recip v1) _ hv1W hlt lu1 rfl).mono ?_
        rintro e w2 ⟨rfl, rfl⟩
        have hw0 : wr.drewN 0 = wr := rfl
        rw [hw0]
        obtain ⟨q0, hq0⟩ : ∃ q0, q0 = divQ uj u1 v1 := ⟨_, rfl⟩
        obtain ⟨r0, hr0⟩ : ∃ r0, r0 = divR uj u1 v1 := ⟨_, rfl⟩
        have e0 := div_eq uj u1 v1
        have hq0W : q0 < WB := by rw [hq0]; exact divQ_lt hlt lu1
        have hr0W : r0 < WB := by rw [hr0]; exact Nat.lt_trans (divR_lt hv1p) hv1W
        have hin := HLd.out.init hv1p
        rw [← hq0] at e0 hin ⊢
        rw [← hr0] at e0 ⊢
        have hz : j = m → q0 = 0 := fun e => by
          obtain ⟨e1, e2, -⟩ := HTB.out.2.2.2.1 e
          rw [hq0]; unfold divQ; rw [e1, Nat.zero_mul, Nat.zero_add]; exact Nat.div_eq_of_lt e2
        have HE0 := Lib.hid (And.intro e0 (And.intro hin hz))
        clear hq0 hr0 e0 hin hz hw0
        go_wp2_with fail
        refine (mulWW q0 v2 hq0W lv2 _).mono ?_
        rintro e w2 ⟨rfl, rfl⟩
        have hw0 : wr.drewN 0 = wr := rfl
        rw [hw0]
        obtain ⟨m1, hm1⟩ : ∃ m1, m1 = mulHi q0 v2 := ⟨_, rfl⟩
        obtain ⟨m2, hm2⟩ : ∃ m2, m2 = mulLo q0 v2 := ⟨_, rfl⟩
        have hm1W : m1 < WB := by rw [hm1]; have := mulHi_lt hq0W lv2; omega
        have hm2W : m2 < WB := by rw [hm2]; exact mulLo_lt _ _
        have em : m1 * WB + m2 = q0 * v2 := by rw [hm1, hm2, ← mul_eq q0 v2, Nat.mul_comm WB, Nat.add_comm]
        rw [← hm1, ← hm2]
        have HM := Lib.hid em
        clear hm1 hm2 em hw0
        go_wp2_with fail
        go_loopg [15, 16, 18, 19] q0 (fun gq qv rv x1v x2v wr2 => ∃ qh rh x1 x2 : Nat, qv = .int .u64 qh ∧ rv = .int .u64 rh ∧ x1v = .int .u64 x1 ∧ x2v = .int .u64 x2 ∧ wr = wr2 ∧ qh < WB ∧ rh < WB ∧ x1 < WB ∧ x2 < WB ∧ qh ≤ gq ∧ Hid (qh ≤ q0 ∧ qh * v1 + rh = uj * WB + u1 ∧ T < (qh + 1) * VV ∧ x1 * WB + x2 = qh * v2))
        case atStart => exact ⟨q0, r0, m1, m2, rfl, rfl, rfl, rfl, rfl, hq0W, hr0W, hm1W, hm2W, Nat.le_refl _, Lib.hid ⟨Nat.le_refl _, HE0.out.1, HE0.out.2.1, HM.out⟩⟩
        case round =>
          obtain ⟨qh, rh, x1, x2, rfl, rfl, rfl, rfl, rfl, p1, p2, p3, p4, p5, p6⟩ := hrel
          have HGT := Lib.hid (greaterThan_ok x1 x2 rh u0 wr p4 lu0)
          by_cases ht : rh * WB + u0 < x1 * WB + x2
          · have HT2 := ref_arith ht p6.out.2.2.2 p1 p2 hv1W lv2 p3 p4
            obtain ⟨q1, rr, y1, y2, hq1, w1, w2, rrW, hov, w3, y2W, hbr, hy, y1W⟩ := HT2
            have hst := HLd.out.step p6.out.2.1 (by rw [← p6.out.2.2.2]; exact ht)
            obtain ⟨p61, p62, p63, p64⟩ := p6.out
            have hq1W : q1 < WB := by omega
            have hq1q : q1 ≤ q0 := by omega
            have hz1 : j = m → q1 = 0 := fun e => by have := HE0.out.2.2 e; omega
            rw [hq1] at hst p62
            have h62 : q1 * v1 + (rh + v1) = uj * WB + u1 := by rw [Nat.add_mul] at p62; omega
            have hST2 : T < (q1 + 1) * VV := hst
            have HST := Lib.hid (And.intro h62 (And.intro hST2 hy))
            have HZ1 := Lib.hid hz1
            obtain ⟨g2, hg2⟩ : ∃ g2, gk = g2 + 1 := ⟨gk - 1, by omega⟩
            have hq1g : q1 ≤ g2 := by omega
            subst hg2
            rw [decide_eq_true ht] at HGT
            clear ht hst hy hz1 h62 hST2 p62 p63 p64 p61 hq1 p5
            rcases hov with ⟨hov, hov2⟩ | ⟨hov, hov2⟩
            · have hdn := HLd.out.done HST.out.1 (by
                have a1 : q1 * v2 ≤ WB * WB := Nat.mul_le_mul (Nat.le_of_lt hq1W) (Nat.le_of_lt lv2)
                have a2 : WB * WB ≤ (rh + v1) * WB := Nat.mul_le_mul_right _ hov2
                omega) hq1W hv1p
              have HG := Lib.hid (show Gs T VV q1 ∧ (j = m → q1 = 0) from ⟨⟨HST.out.2.1, hdn⟩, HZ1.out⟩)
              clear hdn hov2 hbr
              go_wp2_with fail
              refine HGT.out.mono ?_
              rintro e wx ⟨rfl, rfl⟩
              go_wp2_with fail
              go_meet
              exact ⟨q1, rfl, rfl, hq1W, HG⟩
            · have HO := Lib.hid hov2
              clear hov2
              rcases hbr with ⟨hbr, hbr2⟩ | ⟨hbr, hbr2⟩
              · go_wp2_with fail
                refine HGT.out.mono ?_
                rintro e wx ⟨rfl, rfl⟩
                go_wp2_with fail
                go_roundg g2
                case measure => omega
                case rel => exact ⟨q1, rr, y1, y2, rfl, rfl, rfl, rfl, rfl, hq1W, rrW, y1W, y2W, hq1g, Lib.hid ⟨hq1q, by rw [HO.out]; exact HST.out.1, HST.out.2.1, HST.out.2.2⟩⟩
              · subst hbr2
                go_wp2_with fail
                refine HGT.out.mono ?_
                rintro e wx ⟨rfl, rfl⟩
                go_wp2_with fail
                go_roundg g2
                case measure => omega
                case rel => exact ⟨q1, rr, y1, y2, rfl, rfl, rfl, rfl, rfl, hq1W, rrW, y1W, y2W, hq1g, Lib.hid ⟨hq1q, by rw [HO.out]; exact HST.out.1, HST.out.2.1, HST.out.2.2⟩⟩
          · have ht2 : x1 * WB + x2 ≤ rh * WB + u0 := by omega
            have hdn := HLd.out.done p6.out.2.1 (by rw [← p6.out.2.2.2]; exact ht2) p1 hv1p
            have HG := Lib.hid (show Gs T VV qh ∧ (j = m → qh = 0) from ⟨⟨p6.out.2.2.1, hdn⟩, fun e => by have := HE0.out.2.2 e; have := p6.out.1; omega⟩)
            rw [decide_eq_false ht] at HGT
            clear ht ht2 hdn
            go_wp2_with fail
            refine HGT.out.mono ?_
            rintro e wx ⟨rfl, rfl⟩
            go_wp2_with fail
            go_meet
            exact ⟨qh, rfl, rfl, p1, HG⟩
    case rest =>
      obtain ⟨qh, rfl, rfl, hqW, hG⟩ := hcut
      have H2 := HN.out.nw.chg hC.out
      have hov : vb ≠ hb ∨ vo = ho ∨ vo + n ≤ ho ∨ ho + n ≤ vo := by
        by_cases e : vb = hb
        · right; right
          rcases Nat.lt_or_ge ho (vo + n) with h1 | h1
          · rcases Nat.lt_or_ge vo (ho + n) with h2 | h2
            · exfalso
              rcases Nat.lt_or_ge ho vo with h3 | h3
              · exact (HD.out hb vo ⟨rfl, by omega, by omega⟩).2.2 0 (by omega) ⟨e.symm, rfl⟩
              · exact (HD.out hb ho ⟨rfl, by omega, by omega⟩).2.2 (ho - vo) (by omega) ⟨e.symm, by omega⟩
            · exact .inr h2
          · exact .inl h1
        · exact .inl e
      have hwz := H2.wr 0 n (by omega)
      rw [Nat.add_zero] at hwz
      have HMA : Hid (Calls Tryz.prog 207 #[.slice (some ⟨hb, ho, none⟩) n hc, .slice (some ⟨vb, vo, none⟩) n vc, .int .u64 qh, .int .u64 0] wr fun e w' =>
          ∃ c : Nat, e = .returned (.int .u64 c) ∧ c < WB ∧ Val w' hb ho n + c * WB ^ n = Val wr vb vo n * qh + 0 ∧ Chg (Rng hb ho n) wr w') :=
        Lib.hid (mulAddVWW hb ho hc vb vo vc n qh 0 wr (by omega) hqW (by decide) hwz (fun i hi => V2.out.isW i (by omega)) hov)
      have HH := Lib.hid H2
      have HVO := Lib.hid hov
      have i7 : (n : Int) ≤ (hc : Int) := by omega
      have i8 : (n : Int) < (n : Int) + 1 := by omega
      clear H2 hov hwz
      go_wp2_with fail
      refine HMA.out.mono ?_
      rintro e w3 ⟨c3, rfl, hc3W, hv3, hk3⟩
      have HH3 := HH.out.chg hk3
      have cz := (HH3.isW n (by omega)).cell
      have fz := HH3.plain.free (ho + n)
      go_upto_region 25 with fail
      have hk4 := Chg.setW (S := Rng hb ho (n + 1)) (hk3.mono (fun x o _ f => ⟨f.1, f.2.1, by have := f.2.2; omega⟩)) (HH3.isW n (by omega)) hc3W (fun _ => ⟨rfl, by omega, by omega⟩)
      have hv4 : Val (w3.setCell ⟨hb, ho + n, none⟩ (.int .u64 c3)) hb ho (n + 1) = qh * VV := by
        rw [Val_succ, wd_setCell_same cz, show Val (w3.setCell ⟨hb, ho + n, none⟩ (.int .u64 c3)) hb ho n = Val w3 hb ho n from Val_congr fun i hi => wd_setCell_ne (.inr (by omega)), hv3, HVn.out.2, Nat.add_zero, Nat.mul_comm]
      have cq := World.cell?_setCell_same w3 ⟨hb, ho + n, none⟩ (.int .u64 c3) cz
      have HK4 := Lib.hid hk4
      have HV4 := Lib.hid hv4
      have HV3 := Lib.hid hv3
      have HH4 := Lib.hid (HH.out.chg hk4)
      have K4 := Lib.hid (hC.out.then hk4 (fun x o _ f => .inr (.inr f)))
      clear hk4 hv4 hk3 hv3 cz fz HH3 cu1 cu0 cv2
      generalize w3.setCell ⟨hb, ho + n, none⟩ (.int .u64 c3) = w4 at cq HK4 HV4 HH4 K4 ⊢
      have U4 := Lib.hid (U1.out.chg K4.out)
      have huK4 : ∀ i, wd w4 ub (uo + i) = wd wr ub (uo + i) := fun i => by
        by_cases e : uo + i < uo + L
        · exact wd_congr (HK4.out.cell _ _ U2.out.lt (fun f => (HD.out _ _ ⟨f.1, f.2.1, by have := f.2.2; omega⟩).2.1 rfl))
        · exact wd_congr (HK4.out.cell _ _ U2.out.lt (fun f => (HD.out _ _ ⟨f.1, f.2.1, by have := f.2.2; omega⟩).2.1 rfl))
      have HUK := Lib.hid huK4
      clear huK4
      rcases Nat.lt_or_ge j m with hjm2 | hjm2
      · have hTv : T = Val wr ub (uo + j) (n + 1) := HTB.out.2.2.2.2 hjm2
        have hLe := HX.out.2.2.2.2.2.1
        have i9 : ¬ (L : Int) < (j : Int) + ((n : Int) + 1) := by omega
        have i10 : (j : Int) + ((n : Int) + 1) ≤ (uc : Int) := by omega
        have i11 : (j : Int) ≤ (j : Int) + ((n : Int) + 1) := by omega
        have i12 : (n : Int) + 1 ≤ (hc : Int) := by omega
        have i17 : 0 ≤ (n : Int) + 1 := by omega
        have zt2 : ((n : Int) + 1).toNat = n + 1 := by omega
        have i13 : (j : Int) + (n : Int) ≤ (uc : Int) := by omega
        have i14 : (j : Int) ≤ (j : Int) + (n : Int) := by omega
        have i15 : (j : Int) + (n : Int) < (L : Int) := by omega
        have i16 : (j : Int) < (m : Int) := by omega
        have zw : IntKind.i64.wrap ((j : Int) + ((n : Int) + 1)) = (j : Int) + ((n : Int) + 1) := IntWalk.i64_in _ (by omega)
        have zw0 : IntKind.i64.wrap ((j : Int) + (n : Int)) = (j : Int) + (n : Int) := IntWalk.i64_in _ (by omega)
        have zt : ((j : Int) + ((n : Int) + 1)).toNat - j = n + 1 := by omega
        have zt0 : ((j : Int) + (n : Int)).toNat = j + n := by omega
        have zt1 : j + n - j = n := by omega
        have zc : ¬ uc = j := by omega
        have tjm : ((j : Int) == (m : Int)) = false := beq_eq_false_iff_ne.2 (by omega)
        have hbu : hb ≠ ub := (HD.out hb ho ⟨rfl, Nat.le_refl _, by omega⟩).2.1
        have HSV : Hid (Calls Tryz.prog 183 #[.slice (some ⟨ub, uo + j, none⟩) (n + 1) (uc - j), .slice (some ⟨ub, uo + j, none⟩) (n + 1) (uc - j), .slice (some ⟨hb, ho, none⟩) (n + 1) hc] w4.drew fun e w' =>
            ∃ cc : Nat, e = .returned (.int .u64 cc) ∧ cc ≤ 1 ∧ Val w' ub (uo + j) (n + 1) + qh * VV = T + cc * WB ^ (n + 1) ∧ Chg (Rng ub (uo + j) (n + 1)) w4 w') := by
          have hwu := U4.out.wr j (n + 1) (by omega)
          have hwh := HH4.out.wr 0 (n + 1) (by omega)
          rw [Nat.add_zero] at hwh
          refine Lib.hid ((subVV ub (uo + j) (uc - j) ub (uo + j) (uc - j) hb ho hc (n + 1) w4.drew (by omega) ⟨hwu.isW, hwu.plain⟩ hwu.isW hwh.isW (.inr (.inl rfl)) (.inl hbu)).mono ?_)
          rintro e w' ⟨cc, rfl, g1, g2, g3⟩
          have g2' : Val w' ub (uo + j) (n + 1) + Val w4 hb ho (n + 1) = Val w4 ub (uo + j) (n + 1) + cc * WB ^ (n + 1) := g2
          rw [HV4.out, show Val w4 ub (uo + j) (n + 1) = T by rw [hTv]; exact Val_congr fun i _ => by rw [Nat.add_assoc]; exact HUK.out _] at g2'
          exact ⟨cc, rfl, g1, g2', ((Chg.refl _ w4).drew).then g3 (fun _ _ _ f => f)⟩
        have HTv := Lib.hid hTv
        clear hbu hTv hLe cq
        go_upto_region 28 with fail
        go_region_held3 (fun W => True) (trivial) (first
          | (go_at_call 183; (with_reducible refine HSV.out.mono ?_); rintro e w5 ⟨cc, rfl, hcc, hv5, hk5⟩; have HV5 := Lib.hid hv5; have HK5 := Lib.hid hk5; have U5 := Lib.hid (U4.out.chg hk5); clear hv5 hk5))
        all_goals
          have hvr5 : Val w5 vb vo n = VV := by
            rw [HVn.out.2]
            exact Val_congr fun i hi => (wd_congr (HK5.out.cell _ _ (V1.out.chg K4.out).lt (fun f => HX.out.2.2.1 f.1.symm))).trans (wd_congr (HK4.out.cell _ _ V2.out.lt (fun f => (HD.out _ _ ⟨f.1, f.2.1, by have := f.2.2; omega⟩).2.2 i hi ⟨rfl, rfl⟩)))
          have HVr5 := Lib.hid hvr5
          clear hvr5 HSV
          go_upto_if 148 with fail
          go_cut [15, 23] from 45 to 200 (fun qv _ wx => ∃ qd : Nat, qv = .int .u64 qd ∧ qd < WB ∧ Hid (T = qd * VV + Val wx ub (uo + j) (n + 1) ∧ Val wx ub (uo + j) (n + 1) < VV) ∧ Hid (Chg (Rng ub (uo + j) (n + 1)) w4 wx))
          case first =>
            by_cases hc0 : cc = 0
            · have t0 : ((cc : Int) == 0) = true := by rw [hc0]; rfl
              have HG := Lib.hid (hG.out.1.right (M := WB ^ (n + 1)) (by have := HV5.out; rw [hc0] at this; exact this))
              clear hc0
              go_wp2_with fail
              go_meet
              exact ⟨qh, rfl, hqW, HG, HK5⟩
            · have t0 : ((cc : Int) == 0) = false := beq_eq_false_iff_ne.2 (by omega)
              have hc1 : cc = 1 := by omega
              have HAV : Hid (Calls Tryz.prog 181 #[.slice (some ⟨ub, uo + j, none⟩) n (uc - j), .slice (some ⟨ub, uo + j, none⟩) n (uc - j), .slice (some ⟨vb, vo, none⟩) n vc] w5.drew fun e w' =>
                  ∃ c2 : Nat, e = .returned (.int .u64 c2) ∧ c2 ≤ 1 ∧ Val w' ub (uo + j) n + c2 * WB ^ n = Val w5 ub (uo + j) n + VV ∧ Chg (Rng ub (uo + j) n) w5 w') := by
                have hwu := U5.out.wr j n (by omega)
                have hwv := (V1.out.chg K4.out).chg HK5.out
                refine Lib.hid ((addVV ub (uo + j) (uc - j) ub (uo + j) (uc - j) vb vo vc n w5.drew (by omega) ⟨hwu.isW, hwu.plain⟩ hwu.isW (fun i hi => hwv.isW i (by omega)) (.inr (.inl rfl)) (.inl (fun e => HX.out.2.2.1 e.symm))).mono ?_)
                rintro e w' ⟨c2, rfl, g1, g2, g3⟩
                have g2' : Val w' ub (uo + j) n + c2 * WB ^ n = Val w5 ub (uo + j) n + Val w5 vb vo n := g2
                rw [HVr5.out] at g2'
                exact ⟨c2, rfl, g1, g2', ((Chg.refl _ w5).drew).then g3 (fun _ _ _ f => f)⟩
              have HC1 := Lib.hid hc1
              clear hc0 hc1
              go_upto_region 30 with fail
              go_region_held3 (fun W => True) (trivial) (first
                | (go_at_call 181; (with_reducible refine HAV.out.mono ?_); rintro e w6 ⟨c2, rfl, hc2, hv6, hk6⟩; have HV6 := Lib.hid hv6; have HK6 := Lib.hid hk6; have U6 := Lib.hid (U5.out.chg hk6); clear hv6 hk6))
              all_goals
                have ct := (U6.out.isW (j + n) (by omega)).cell
                have lt := (U6.out.isW (j + n) (by omega)).lt
                have ft := U6.out.plain.free (uo + (j + n))
                obtain ⟨tp, htp⟩ : ∃ tp, tp = wd w6 ub (uo + (j + n)) := ⟨_, rfl⟩
                rw [← htp] at ct lt
                obtain ⟨t2, ht2⟩ : ∃ t2, t2 = (tp + c2) % WB := ⟨_, rfl⟩
                have e2 : IntKind.u64.wrap ((tp : Int) + (c2 : Int)) = (t2 : Int) := by rw [ht2, IntKind.wrap_u64]; unfold WB; omega
                have ht2W : t2 < WB := by rw [ht2]; exact Nat.mod_lt _ WB_pos
                have hdm := Nat.mod_add_div (tp + c2) WB
                rw [← ht2] at hdm
                have hA : Val w5 ub (uo + j) (n + 1) = Val w5 ub (uo + j) n + tp * WB ^ n := by
                  rw [Val_succ, htp, show uo + (j + n) = uo + j + n by omega, wd_congr (HK6.out.cell ub (uo + j + n) U5.out.lt (fun f => by have := f.2.2; omega))]
                have hf : Val (w6.setCell ⟨ub, uo + (j + n), none⟩ (.int .u64 t2)) ub (uo + j) (n + 1) = Val w6 ub (uo + j) n + t2 * WB ^ n := by
                  rw [Val_succ, show uo + j + n = uo + (j + n) by omega, wd_setCell_same ct, show Val (w6.setCell ⟨ub, uo + (j + n), none⟩ (.int .u64 t2)) ub (uo + j) n = Val w6 ub (uo + j) n from Val_congr fun i hi => wd_setCell_ne (.inr (by omega))]
                have hlf : Val w6 ub (uo + j) n + t2 * WB ^ n < WB ^ (n + 1) := by
                  have b1 : Val w6 ub (uo + j) n < WB ^ n := Val_lt fun i hi => by rw [Nat.add_assoc]; exact U6.out.isW _ (by omega)
                  have b2 : (t2 + 1) * WB ^ n ≤ WB * WB ^ n := Nat.mul_le_mul_right _ ht2W
                  rw [Nat.pow_succ, Nat.mul_comm (WB ^ n)]
                  rw [Nat.add_mul] at b2
                  omega
                have hlA : Val w5 ub (uo + j) (n + 1) < WB ^ (n + 1) := Val_lt fun i hi => by rw [Nat.add_assoc]; exact U5.out.isW _ (by omega)
                have hVM : VV ≤ WB ^ (n + 1) := by
                  have b1 : WB ^ n ≤ WB ^ (n + 1) := Nat.pow_le_pow_right WB_pos (by omega)
                  have := HVn.out.1
                  omega
                have hs6 : Val w6 ub (uo + j) n + t2 * WB ^ n + (tp + c2) / WB * WB ^ (n + 1) = Val w5 ub (uo + j) (n + 1) + VV := by
                  have a1 := HV6.out
                  have a2 : (t2 + WB * ((tp + c2) / WB)) * WB ^ n = (tp + c2) * WB ^ n := by rw [hdm]
                  rw [Nat.add_mul, Nat.add_mul] at a2
                  have a3 : WB * ((tp + c2) / WB) * WB ^ n = (tp + c2) / WB * WB ^ (n + 1) := by rw [Nat.pow_succ, Nat.mul_comm WB, Nat.mul_assoc, Nat.mul_comm WB]
                  rw [hA]
                  omega
                obtain ⟨k1, k2, k3⟩ := hG.out.1.less (M := WB ^ (n + 1)) (A := Val w5 ub (uo + j) (n + 1)) (by have := HV5.out; rw [HC1.out] at this; exact this) hlA hs6 hlf hVM
                obtain ⟨q1, hq1⟩ : ∃ q1, q1 = qh - 1 := ⟨_, rfl⟩
                have e1 : IntKind.u64.wrap ((qh : Int) - 1) = (q1 : Int) := by rw [hq1, IntKind.wrap_u64]; unfold WB at hqW; omega
                have hq1W : q1 < WB := by omega
                rw [← hq1, ← hf] at k2
                rw [← hf] at k3
                have hkf := Chg.setW (S := Rng ub (uo + j) (n + 1)) (HK5.out.then HK6.out (fun x o _ f => ⟨f.1, f.2.1, by have := f.2.2; omega⟩)) (U6.out.isW (j + n) (by omega)) ht2W (fun _ => ⟨rfl, by omega, by omega⟩)
                have HF := Lib.hid (And.intro k2 k3)
                have HKF := Lib.hid hkf
                clear k1 k2 k3 hkf hq1 hs6 hVM hlA hlf hf hA hdm ht2 htp lt
                go_wp2_with fail
                go_meet
                exact ⟨q1, rfl, hq1W, HF, HKF⟩
          case rest =>
            obtain ⟨qd, rfl, hqdW, hQD, hK7⟩ := hcut
            generalize wc = w7 at *
            have K7 := Lib.hid (K4.out.then hK7.out (fun x o _ f => .inr (.inl ⟨f.1, by have := f.2.1; omega, by have := f.2.2; have := HX.out.2.2.2.2.2.1; omega⟩)))
            have U7 := U1.out.chg K7.out
            have Q7 := Q1.out.chg K7.out
            have cu1 := (U7.isW a1 (by omega)).cell
            obtain ⟨uj2, huj2⟩ : ∃ uj2, uj2 = wd w7 ub (uo + a1) := ⟨_, rfl⟩
            rw [← huj2] at cu1
            have cq := (Q7.isW j (by omega)).cell
            have fq := Q7.plain.free (qo + j)
            have kq := Chg.setW (S := Rng qb qo m) (Chg.refl _ w7) (Q7.isW j (by omega)) hqdW (fun _ => ⟨rfl, by omega, by omega⟩)
            have hud : ∀ o, wd (w7.setCell ⟨qb, qo + j, none⟩ (.int .u64 qd)) ub o = wd w7 ub o := fun o => wd_setCell_ne (.inl (fun e => HX.out.1 e.symm))
            have hst := DvI.step (wf := w7.setCell ⟨qb, qo + j, none⟩ (.int .u64 qd)) (qd := qd) (A := Val w7 ub (uo + j) (n + 1)) hI.out hjm2 (Nat.le_of_lt HVn.out.1) HTv.out (Val_congr (w := w7) fun i _ => (hud _)).symm hQD.out.1 hQD.out.2
              (fun i hi => (hud _).trans ((wd_congr (hK7.out.cell _ _ U4.out.lt (fun f => by have := f.2.1; omega))).trans (HUK.out i)))
              (fun i hi _ => (hud _).trans ((wd_congr (hK7.out.cell _ _ U4.out.lt (fun f => by have := f.2.2; omega))).trans (HUK.out i)))
              (fun i hi hi2 => (wd_setCell_ne (.inr (by omega))).trans ((wd_congr (hK7.out.cell _ _ (Q1.out.chg K4.out).lt (fun f => HX.out.1 f.1))).trans (wd_congr (HK4.out.cell _ _ (Q1.out.chg hC.out).lt (fun f => (HD.out _ _ ⟨f.1, f.2.1, by have := f.2.2; omega⟩).1 rfl)))))
              (wd_setCell_same cq) (by omega)
            rw [hud, show uo + (j + n - 1) = uo + a1 by rw [HA.out.1], ← huj2] at hst
            have HST := Lib.hid hst
            have HKQ := Lib.hid (K7.out.then kq (fun x o _ f => .inl f))
            clear hst kq hud huj2 U7 Q7
            go_wp2_with fail
            go_roundg g1
            case measure => omega
            case rel => exact ⟨j, uj2, by omega, rfl, rfl, HST, HKQ, Lib.hid (by have := hgk.out; omega), Lib.hid (fun e => by omega)⟩
      · obtain rfl : j = m := by omega
        have hq0 : qh = 0 := hG.out.2 rfl
        have hc0 : c3 = 0 := by
          have h1 := HV3.out
          rw [hq0, Nat.mul_zero] at h1
          rcases Nat.eq_zero_or_pos c3 with e | e
          · exact e
          · have : 0 < c3 * WB ^ n := Nat.mul_pos e (Nat.pow_pos WB_pos)
            omega
        have tq : ((qh : Int) == 0) = true := by rw [hq0]; rfl
        have tc : ((c3 : Int) == 0) = true := by rw [hc0]; rfl
        have HQ0 := Lib.hid hq0
        clear hq0 hc0 hjm2
        have i9 : (L : Int) < (j : Int) + ((n : Int) + 1) := by omega
        have i10 : (j : Int) + (n : Int) ≤ (uc : Int) := by omega
        have i11 : (j : Int) ≤ (j : Int) + (n : Int) := by omega
        have zw : IntKind.i64.wrap ((j : Int) + (n : Int)) = (j : Int) + (n : Int) := IntWalk.i64_in _ (by omega)
        have zt : ((j : Int) + (n : Int)).toNat - j = n := by omega
        have zc : ¬ uc = j := by omega
        have hbu : hb ≠ ub := (HD.out hb ho ⟨rfl, Nat.le_refl _, by omega⟩).2.1
        have HSV : Hid (Calls Tryz.prog 183 #[.slice (some ⟨ub, uo + j, none⟩) n (uc - j), .slice (some ⟨ub, uo + j, none⟩) n (uc - j), .slice (some ⟨hb, ho, none⟩) n hc] w4.drew fun e w' =>
            e = .returned (.int .u64 0) ∧ Val w' ub (uo + j) n = Val w4 ub (uo + j) n ∧ Chg (Rng ub (uo + j) n) w4 w') := by
          have hwu := U4.out.wr j n (by omega)
          have hwh := HH4.out.wr 0 n (by omega)
          rw [Nat.add_zero] at hwh
          have hz : Val w4 hb ho n = 0 := by
            have h1 := HV4.out
            rw [HQ0.out, Nat.zero_mul, Val_succ] at h1
            omega
          refine Lib.hid ((subVV ub (uo + j) (uc - j) ub (uo + j) (uc - j) hb ho hc n w4.drew (by omega) ⟨hwu.isW, hwu.plain⟩ hwu.isW hwh.isW (.inr (.inl rfl)) (.inl hbu)).mono ?_)
          rintro e w' ⟨cc, rfl, g1, g2, g3⟩
          have g2' : Val w' ub (uo + j) n + Val w4 hb ho n = Val w4 ub (uo + j) n + cc * WB ^ n := g2
          rw [hz] at g2'
          have b1 : Val w' ub (uo + j) n < WB ^ n := Val_lt fun i hi => g3.isW _ _ (hwu.isW i hi)
          have hc0 : cc = 0 := by
            rcases Nat.eq_zero_or_pos cc with e | e
            · exact e
            · have : 1 * WB ^ n ≤ cc * WB ^ n := Nat.mul_le_mul_right _ e
              omega
          subst hc0
          rw [Nat.zero_mul, Nat.add_zero, Nat.add_zero] at g2'
          exact ⟨rfl, g2', ((Chg.refl _ w4).drew).then g3 (fun _ _ _ f => f)⟩
        clear hbu
        go_upto_region 28 with fail
        go_region_held3 (fun W => True) (trivial) (first
          | (go_at_call 183; (with_reducible refine HSV.out.mono ?_); rintro e w5 ⟨rfl, hv5, hk5⟩; have HV5 := Lib.hid hv5; have HK5 := Lib.hid hk5; have U5 := Lib.hid (U4.out.chg hk5); clear hv5 hk5))
        all_goals
          have cu1 := (U5.out.isW a1 (by omega)).cell
          obtain ⟨uj2, huj2⟩ : ∃ uj2, uj2 = wd w5 ub (uo + a1) := ⟨_, rfl⟩
          rw [← huj2] at cu1
          have HU2 := Lib.hid huj2
          clear huj2
          go_wp2_with fail
          go_roundg g1
          case measure => omega
          case rel =>
            obtain ⟨d1, d2, d3⟩ : Val wr ub uo (j + n) = UU ∧ Val wr ub (uo + j) n < VV ∧ uj = 0 := by
              rcases hI.out with ⟨_, h2, h3, h4⟩ | ⟨h, _⟩
              · exact ⟨h3, h4, h2⟩
              · omega
            have e1 : Val w5 ub (uo + j) n = Val wr ub (uo + j) n := HV5.out.trans (Val_congr fun i _ => by rw [Nat.add_assoc]; exact HUK.out _)
            have e2 : Val w5 ub uo j = Val wr ub uo j := Val_congr fun i hi => (wd_congr (HK5.out.cell _ _ U4.out.lt (fun f => by have := f.2.1; omega))).trans (HUK.out i)
            have e3 : Val w5 ub uo (j + n) = Val wr ub uo (j + n) := by rw [Val_split, Val_split wr, e1, e2]
            refine ⟨j, uj2, by omega, rfl, rfl, Lib.hid (.inr ⟨Nat.le_refl _, by rw [HU2.out, HA.out.1], by rw [e1]; exact d2, ?_, rfl⟩), Lib.hid (K4.out.then HK5.out (fun x o _ f => .inr (.inl ⟨f.1, by have := f.2.1; omega, by have := f.2.2; have := HX.out.2.2.2.2.2.1; omega⟩))), Lib.hid (by have := hgk.out; omega), Lib.hid (fun e => by omega)⟩
            rw [Nat.sub_self, e3, d1]
            simp [Val, V]
end Go.Proofs.YtacfhndledcmgaaGreatDoor
