/- Lemmas for the law FnBackDecimal: cells of a Float, SetBits, round, SetInt. Conditions: those in each theorem; none besides. -/
import Derived.Test.YtacfhndledcmgaaGreatDoorK6
import Derived.Deep.AppendSrc
import Derived.Laws.BitsAllLaws
set_option linter.unusedVariables false
set_option linter.unusedSimpArgs false
namespace Go.Proofs.YtacfhndledcmgaaGreatDoor
open Go.RowKit
/-- The cells of a Float: precision, mode, accuracy, form, sign, mantissa, exponent. -/
structure Fl (w : World) (b p m : Nat) (a : Int) (f : Nat) (n : Bool) (v : Value) (e : Int) : Prop where
  c0 : w.cell? ⟨b, 0, none⟩ = some (.int .u32 p)
  c1 : w.cell? ⟨b, 1, none⟩ = some (.int .u8 m)
  c2 : w.cell? ⟨b, 2, none⟩ = some (.int .i8 a)
  c3 : w.cell? ⟨b, 3, none⟩ = some (.int .u8 f)
  c4 : w.cell? ⟨b, 4, none⟩ = some (.bool n)
  c5 : w.cell? ⟨b, 5, none⟩ = some v
  c6 : w.cell? ⟨b, 6, none⟩ = some (.int .i32 e)
  sl : ∃ x y z, v = .slice x y z
  plain : Plain w b
  own : 17 ≤ b
  m8 : m < 256
  f8 : f < 256
/-- All places of a block. -/
def Blk (b : Nat) : Nat → Nat → Prop := fun x _ => x = b
theorem Chg.setO {S : Nat → Nat → Prop} {a w : World} (h : Chg S a w) {b o : Nat} {u : Value} (v : Value) (hu : w.cell? ⟨b, o, none⟩ = some u) (h64 : ∀ n, u ≠ .int .u64 n) (h8 : ∀ n, u ≠ .int .u8 n) (hS : b < a.heap.size → S b o) : Chg S a (w.setCell ⟨b, o, none⟩ v) := by
  have key : ∀ (k : IntKind) (m x p : Nat), (∀ n, u ≠ .int k n) → IsI k m w x p → IsI k m (w.setCell ⟨b, o, none⟩ v) x p := by
    intro k m x p hk hi
    refine hi.congr (cell_setCell_ne _ _ _ _ _ _ ?_)
    rcases Nat.decEq x b with e | e
    · exact .inl e
    · rcases Nat.decEq p o with e' | e'
      · exact .inr e'
      · subst e; subst e'
        obtain ⟨n, _, h1⟩ := hi
        rw [hu] at h1
        exact absurd (Option.some.inj h1) (hk _)
  refine h.then (T := fun x p => x = b ∧ p = o) ⟨rfl, rfl, rfl, by simp, fun x p _ hne => cell_setCell_ne _ _ _ _ _ _ (by omega), fun x hx => by simp, fun x hx hne => Below.heap_setCell _ _ _ _ (fun e => hne o ⟨e, rfl⟩), fun x hx => shape_setCell _ _ _ _, fun x p hx => key _ _ x p h64 hx, fun x p hx => key _ _ x p h8 hx, fun x hx => hx.setCell _ _⟩ ?_
  rintro x p hx ⟨rfl, rfl⟩; exact hS hx
theorem Fl.isB1 {w : World} {b p m : Nat} {a : Int} {f : Nat} {n : Bool} {v : Value} {e : Int} (h : Fl w b p m a f n v e) : IsB w b 1 := ⟨m, h.m8, h.c1⟩
theorem Fl.isB3 {w : World} {b p m : Nat} {a : Int} {f : Nat} {n : Bool} {v : Value} {e : Int} (h : Fl w b p m a f n v e) : IsB w b 3 := ⟨f, h.f8, h.c3⟩
theorem Fl.lt {w : World} {b p m : Nat} {a : Int} {f : Nat} {n : Bool} {v : Value} {e : Int} (h : Fl w b p m a f n v e) : b < w.heap.size := h.plain.lt
theorem Fl.chg {S : Nat → Nat → Prop} {w w' : World} {b p m : Nat} {a : Int} {f : Nat} {n : Bool} {v : Value} {e : Int} (h : Fl w b p m a f n v e) (hc : Chg S w w') (hS : ∀ o, ¬ S b o) : Fl w' b p m a f n v e where
  c0 := (hc.cell _ _ h.lt (hS 0)).trans h.c0
  c1 := (hc.cell _ _ h.lt (hS 1)).trans h.c1
  c2 := (hc.cell _ _ h.lt (hS 2)).trans h.c2
  c3 := (hc.cell _ _ h.lt (hS 3)).trans h.c3
  c4 := (hc.cell _ _ h.lt (hS 4)).trans h.c4
  c5 := (hc.cell _ _ h.lt (hS 5)).trans h.c5
  c6 := (hc.cell _ _ h.lt (hS 6)).trans h.c6
  sl := h.sl
  plain := hc.plain _ h.plain
  own := h.own
  m8 := h.m8
  f8 := h.f8
theorem Fl.drewN {w : World} {b p m : Nat} {a : Int} {f : Nat} {n : Bool} {v : Value} {e : Int} (h : Fl w b p m a f n v e) (k : Nat) : Fl (w.drewN k) b p m a f n v e := h.chg ((Chg.refl No w).drewN k) fun _ f => f
theorem Fl.set0 {w : World} {b p m : Nat} {a : Int} {f : Nat} {n : Bool} {v : Value} {e : Int} (h : Fl w b p m a f n v e) (p' : Nat) : Fl (w.setCell ⟨b, 0, none⟩ (.int .u32 p')) b p' m a f n v e where
  c0 := World.cell?_setCell_same _ _ _ h.c0
  c1 := (cell_setCell_ne _ _ _ _ _ _ (.inr (by omega))).trans h.c1
  c2 := (cell_setCell_ne _ _ _ _ _ _ (.inr (by omega))).trans h.c2
  c3 := (cell_setCell_ne _ _ _ _ _ _ (.inr (by omega))).trans h.c3
  c4 := (cell_setCell_ne _ _ _ _ _ _ (.inr (by omega))).trans h.c4
  c5 := (cell_setCell_ne _ _ _ _ _ _ (.inr (by omega))).trans h.c5
  c6 := (cell_setCell_ne _ _ _ _ _ _ (.inr (by omega))).trans h.c6
  sl := h.sl
  plain := h.plain.setCell _ _
  own := h.own
  m8 := h.m8
  f8 := h.f8
theorem Fl.put0 {w : World} {b p m : Nat} {a : Int} {f : Nat} {n : Bool} {v : Value} {e : Int} (h : Fl w b p m a f n v e) {S : Nat → Nat → Prop} {w0 : World} (hc : Chg S w0 w) (p' : Nat) (hS : b < w0.heap.size → S b 0) : Chg S w0 (w.setCell ⟨b, 0, none⟩ (.int .u32 p')) := hc.setO _ h.c0 (fun n hn => by cases hn) (fun n hn => by cases hn) hS
theorem Fl.set1 {w : World} {b p m : Nat} {a : Int} {f : Nat} {n : Bool} {v : Value} {e : Int} (h : Fl w b p m a f n v e) (m' : Nat) (h8 : m' < 256) : Fl (w.setCell ⟨b, 1, none⟩ (.int .u8 m')) b p m' a f n v e where
  c0 := (cell_setCell_ne _ _ _ _ _ _ (.inr (by omega))).trans h.c0
  c1 := World.cell?_setCell_same _ _ _ h.c1
  c2 := (cell_setCell_ne _ _ _ _ _ _ (.inr (by omega))).trans h.c2
  c3 := (cell_setCell_ne _ _ _ _ _ _ (.inr (by omega))).trans h.c3
  c4 := (cell_setCell_ne _ _ _ _ _ _ (.inr (by omega))).trans h.c4
  c5 := (cell_setCell_ne _ _ _ _ _ _ (.inr (by omega))).trans h.c5
  c6 := (cell_setCell_ne _ _ _ _ _ _ (.inr (by omega))).trans h.c6
  sl := h.sl
  plain := h.plain.setCell _ _
  own := h.own
  m8 := h8
  f8 := h.f8
theorem Fl.put1 {w : World} {b p m : Nat} {a : Int} {f : Nat} {n : Bool} {v : Value} {e : Int} (h : Fl w b p m a f n v e) {S : Nat → Nat → Prop} {w0 : World} (hc : Chg S w0 w) (m' : Nat) (h8 : m' < 256) (hS : b < w0.heap.size → S b 1) : Chg S w0 (w.setCell ⟨b, 1, none⟩ (.int .u8 m')) := hc.setB h.isB1 h8 hS
theorem Fl.set2 {w : World} {b p m : Nat} {a : Int} {f : Nat} {n : Bool} {v : Value} {e : Int} (h : Fl w b p m a f n v e) (a' : Int) : Fl (w.setCell ⟨b, 2, none⟩ (.int .i8 a')) b p m a' f n v e where
  c0 := (cell_setCell_ne _ _ _ _ _ _ (.inr (by omega))).trans h.c0
  c1 := (cell_setCell_ne _ _ _ _ _ _ (.inr (by omega))).trans h.c1
  c2 := World.cell?_setCell_same _ _ _ h.c2
  c3 := (cell_setCell_ne _ _ _ _ _ _ (.inr (by omega))).trans h.c3
  c4 := (cell_setCell_ne _ _ _ _ _ _ (.inr (by omega))).trans h.c4
  c5 := (cell_setCell_ne _ _ _ _ _ _ (.inr (by omega))).trans h.c5
  c6 := (cell_setCell_ne _ _ _ _ _ _ (.inr (by omega))).trans h.c6
  sl := h.sl
  plain := h.plain.setCell _ _
  own := h.own
  m8 := h.m8
  f8 := h.f8
theorem Fl.put2 {w : World} {b p m : Nat} {a : Int} {f : Nat} {n : Bool} {v : Value} {e : Int} (h : Fl w b p m a f n v e) {S : Nat → Nat → Prop} {w0 : World} (hc : Chg S w0 w) (a' : Int) (hS : b < w0.heap.size → S b 2) : Chg S w0 (w.setCell ⟨b, 2, none⟩ (.int .i8 a')) := hc.setO _ h.c2 (fun n hn => by cases hn) (fun n hn => by cases hn) hS
theorem Fl.set3 {w : World} {b p m : Nat} {a : Int} {f : Nat} {n : Bool} {v : Value} {e : Int} (h : Fl w b p m a f n v e) (f' : Nat) (h8 : f' < 256) : Fl (w.setCell ⟨b, 3, none⟩ (.int .u8 f')) b p m a f' n v e where
  c0 := (cell_setCell_ne _ _ _ _ _ _ (.inr (by omega))).trans h.c0
  c1 := (cell_setCell_ne _ _ _ _ _ _ (.inr (by omega))).trans h.c1
  c2 := (cell_setCell_ne _ _ _ _ _ _ (.inr (by omega))).trans h.c2
  c3 := World.cell?_setCell_same _ _ _ h.c3
  c4 := (cell_setCell_ne _ _ _ _ _ _ (.inr (by omega))).trans h.c4
  c5 := (cell_setCell_ne _ _ _ _ _ _ (.inr (by omega))).trans h.c5
  c6 := (cell_setCell_ne _ _ _ _ _ _ (.inr (by omega))).trans h.c6
  sl := h.sl
  plain := h.plain.setCell _ _
  own := h.own
  m8 := h.m8
  f8 := h8
theorem Fl.put3 {w : World} {b p m : Nat} {a : Int} {f : Nat} {n : Bool} {v : Value} {e : Int} (h : Fl w b p m a f n v e) {S : Nat → Nat → Prop} {w0 : World} (hc : Chg S w0 w) (f' : Nat) (h8 : f' < 256) (hS : b < w0.heap.size → S b 3) : Chg S w0 (w.setCell ⟨b, 3, none⟩ (.int .u8 f')) := hc.setB h.isB3 h8 hS
theorem Fl.set4 {w : World} {b p m : Nat} {a : Int} {f : Nat} {n : Bool} {v : Value} {e : Int} (h : Fl w b p m a f n v e) (n' : Bool) : Fl (w.setCell ⟨b, 4, none⟩ (.bool n')) b p m a f n' v e where
  c0 := (cell_setCell_ne _ _ _ _ _ _ (.inr (by omega))).trans h.c0
  c1 := (cell_setCell_ne _ _ _ _ _ _ (.inr (by omega))).trans h.c1
  c2 := (cell_setCell_ne _ _ _ _ _ _ (.inr (by omega))).trans h.c2
  c3 := (cell_setCell_ne _ _ _ _ _ _ (.inr (by omega))).trans h.c3
  c4 := World.cell?_setCell_same _ _ _ h.c4
  c5 := (cell_setCell_ne _ _ _ _ _ _ (.inr (by omega))).trans h.c5
  c6 := (cell_setCell_ne _ _ _ _ _ _ (.inr (by omega))).trans h.c6
  sl := h.sl
  plain := h.plain.setCell _ _
  own := h.own
  m8 := h.m8
  f8 := h.f8
theorem Fl.put4 {w : World} {b p m : Nat} {a : Int} {f : Nat} {n : Bool} {v : Value} {e : Int} (h : Fl w b p m a f n v e) {S : Nat → Nat → Prop} {w0 : World} (hc : Chg S w0 w) (n' : Bool) (hS : b < w0.heap.size → S b 4) : Chg S w0 (w.setCell ⟨b, 4, none⟩ (.bool n')) := hc.setO _ h.c4 (fun n hn => by cases hn) (fun n hn => by cases hn) hS
theorem Fl.set5 {w : World} {b p m : Nat} {a : Int} {f : Nat} {n : Bool} {v : Value} {e : Int} (h : Fl w b p m a f n v e) (v' : Value) (hsl : ∃ x y z, v' = .slice x y z) : Fl (w.setCell ⟨b, 5, none⟩ v') b p m a f n v' e where
  c0 := (cell_setCell_ne _ _ _ _ _ _ (.inr (by omega))).trans h.c0
  c1 := (cell_setCell_ne _ _ _ _ _ _ (.inr (by omega))).trans h.c1
  c2 := (cell_setCell_ne _ _ _ _ _ _ (.inr (by omega))).trans h.c2
  c3 := (cell_setCell_ne _ _ _ _ _ _ (.inr (by omega))).trans h.c3
  c4 := (cell_setCell_ne _ _ _ _ _ _ (.inr (by omega))).trans h.c4
  c5 := World.cell?_setCell_same _ _ _ h.c5
  c6 := (cell_setCell_ne _ _ _ _ _ _ (.inr (by omega))).trans h.c6
  sl := hsl
  plain := h.plain.setCell _ _
  own := h.own
  m8 := h.m8
  f8 := h.f8
theorem Fl.put5 {w : World} {b p m : Nat} {a : Int} {f : Nat} {n : Bool} {v : Value} {e : Int} (h : Fl w b p m a f n v e) {S : Nat → Nat → Prop} {w0 : World} (hc : Chg S w0 w) (v' : Value) (hS : b < w0.heap.size → S b 5) : Chg S w0 (w.setCell ⟨b, 5, none⟩ v') := hc.setO _ h.c5 (fun n hn => by obtain ⟨_, _, _, rfl⟩ := h.sl; cases hn) (fun n hn => by obtain ⟨_, _, _, rfl⟩ := h.sl; cases hn) hS
theorem Fl.set6 {w : World} {b p m : Nat} {a : Int} {f : Nat} {n : Bool} {v : Value} {e : Int} (h : Fl w b p m a f n v e) (e' : Int) : Fl (w.setCell ⟨b, 6, none⟩ (.int .i32 e')) b p m a f n v e' where
  c0 := (cell_setCell_ne _ _ _ _ _ _ (.inr (by omega))).trans h.c0
  c1 := (cell_setCell_ne _ _ _ _ _ _ (.inr (by omega))).trans h.c1
  c2 := (cell_setCell_ne _ _ _ _ _ _ (.inr (by omega))).trans h.c2
  c3 := (cell_setCell_ne _ _ _ _ _ _ (.inr (by omega))).trans h.c3
  c4 := (cell_setCell_ne _ _ _ _ _ _ (.inr (by omega))).trans h.c4
  c5 := (cell_setCell_ne _ _ _ _ _ _ (.inr (by omega))).trans h.c5
  c6 := World.cell?_setCell_same _ _ _ h.c6
  sl := h.sl
  plain := h.plain.setCell _ _
  own := h.own
  m8 := h.m8
  f8 := h.f8
theorem Fl.put6 {w : World} {b p m : Nat} {a : Int} {f : Nat} {n : Bool} {v : Value} {e : Int} (h : Fl w b p m a f n v e) {S : Nat → Nat → Prop} {w0 : World} (hc : Chg S w0 w) (e' : Int) (hS : b < w0.heap.size → S b 6) : Chg S w0 (w.setCell ⟨b, 6, none⟩ (.int .i32 e')) := hc.setO _ h.c6 (fun n hn => by cases hn) (fun n hn => by cases hn) hS
set_option maxHeartbeats 1000000 in
theorem float_SetPrec_new (b P m : Nat) (a : Int) (f : Nat) (n : Bool) (v : Value) (e : Int) (w : World) (h : Fl w b 0 m a f n v e) (hP0 : 0 < P) (hP : P < 65536) :
    Calls Tryz.prog 130 #[.pointer (some ⟨b, 0, none⟩), .int .u64 P] w fun r w' => r = .returned (.pointer (some ⟨b, 0, none⟩)) ∧ Fl w' b P m 0 f n v e ∧ Chg (Blk b) w w' := by
  have h1 := h.set2 0
  have h2 := h.put2 (Chg.refl (Blk b) w) 0 (fun _ => rfl)
  have F := Lib.hid (h1.set0 P)
  have C := Lib.hid (h1.put0 h2 P (fun _ => rfl))
  clear h1 h2
  obtain ⟨c0, c1, c2, c3, c4, c5, c6, -, hp, -, -, -⟩ := h
  have f0 := hp.free 0
  have f2 := hp.free 2
  have t1 : ((P : Int) == 0) = false := by simp; omega
  have t2 : decide (4294967295 < (P : Int)) = false := decide_eq_false (by omega)
  have t3 : ¬ (P : Int) < 0 := by omega
  have e1 : IntKind.u32.wrap (P : Int) = (P : Int) := by rw [IntKind.wrap_u32]; omega
  clear hp hP hP0
  go_enter Tryz.func130, Tryz.ntmps130
  go_wp2_with fail
  go_ret
  exact ⟨rfl, F.out, C.out⟩
set_option maxHeartbeats 1000000 in
theorem float_SetMode (b p M m : Nat) (a : Int) (f : Nat) (n : Bool) (v : Value) (e : Int) (w : World) (h : Fl w b p m a f n v e) (hM : M < 256) :
    Calls Tryz.prog 131 #[.pointer (some ⟨b, 0, none⟩), .int .u8 M] w fun r w' => r = .returned (.pointer (some ⟨b, 0, none⟩)) ∧ Fl w' b p M 0 f n v e ∧ Chg (Blk b) w w' := by
  have h1 := h.set1 M hM
  have h2 := h.put1 (Chg.refl (Blk b) w) M hM (fun _ => rfl)
  have F := Lib.hid (h1.set2 0)
  have C := Lib.hid (h1.put2 h2 0 (fun _ => rfl))
  clear h1 h2
  obtain ⟨c0, c1, c2, c3, c4, c5, c6, -, hp, -, -, -⟩ := h
  have f0 := hp.free 1
  have f2 := hp.free 2
  clear hp
  go_enter Tryz.func131, Tryz.ntmps131
  go_wp2_with fail
  go_ret
  exact ⟨rfl, F.out, C.out⟩
/-- A new Float. -/
theorem Fl.new (w : World) (hs : 17 ≤ w.heap.size) : Fl (w.alloc (.cells #[.int .u32 0, .int .u8 0, .int .i8 0, .int .u8 0, .bool false, .slice none 0 0, .int .i32 0] 176)) w.heap.size 0 0 0 0 false (.slice none 0 0) 0 := by
  refine ⟨?_, ?_, ?_, ?_, ?_, ?_, ?_, ⟨_, _, _, rfl⟩, Plain.new _ _ _, hs, by omega, by omega⟩
  all_goals exact World.cell?_alloc_new _ _ _ _
set_option maxHeartbeats 1000000 in
theorem impl_fresh (P M : Nat) (w : World) (hP0 : 0 < P) (hP : P < 65536) (hM : M < 6) (hs : 17 ≤ w.heap.size) :
    Calls Tryz.prog 81 #[.int .u64 P, .int .i64 M] w fun r w' => r = .returned (.pointer (some ⟨w.heap.size, 0, none⟩)) ∧ Fl w' w.heap.size P M 0 0 false (.slice none 0 0) 0 ∧ Chg No w w' := by
  have e1 : IntKind.u8.wrap (M : Int) = (M : Int) := by rw [IntKind.wrap_u8]; omega
  have h0 := Fl.new w hs
  have C0 := Lib.hid ((Chg.refl No w).alloc (.cells #[.int .u32 0, .int .u8 0, .int .i8 0, .int .u8 0, .bool false, .slice none 0 0, .int .i32 0] 176))
  have H1 := Lib.hid (float_SetPrec_new _ P _ _ _ _ _ _ _ h0 hP0 hP)
  clear h0
  go_enter Tryz.func81, Tryz.ntmps81
  go_wp2_with fail
  refine H1.out.mono ?_
  rintro e w1 ⟨rfl, h1, k1⟩
  have K1 := Lib.hid k1
  have H2 := Lib.hid (float_SetMode _ _ M _ _ _ _ _ _ _ h1 (by omega))
  clear h1 k1
  go_wp2_with fail
  refine H2.out.mono ?_
  rintro e w2 ⟨rfl, h2, k2⟩
  have F := Lib.hid h2
  have C := Lib.hid ((C0.out.then K1.out (fun x o hx h => by simp [Blk] at h; omega)).then k2 (fun x o hx h => by simp [Blk] at h; omega))
  clear h2 k2
  go_wp2_with fail
  go_ret
  exact ⟨rfl, F.out, C.out⟩
/-- Words, or bytes. -/
def KM (k : IntKind) (M : Nat) : Prop := (k = .u64 ∧ M = WB) ∨ (k = .u8 ∧ M = 256)
theorem KM.pos {k : IntKind} {M : Nat} (h : KM k M) : 0 < M := by rcases h with ⟨_, rfl⟩ | ⟨_, rfl⟩ <;> decide
theorem Chg.setI {S : Nat → Nat → Prop} {a w : World} {k : IntKind} {M : Nat} (hk : KM k M) (h : Chg S a w) {b o n : Nat} (hw : IsI k M w b o) (hn : n < M) (hS : b < a.heap.size → S b o) : Chg S a (w.setCell ⟨b, o, none⟩ (.int k n)) := by
  rcases hk with ⟨rfl, rfl⟩ | ⟨rfl, rfl⟩
  · exact h.setW hw hn hS
  · exact h.setB hw hn hS
theorem Chg.isI {S : Nat → Nat → Prop} {a w : World} {k : IntKind} {M : Nat} (hk : KM k M) (h : Chg S a w) {b o : Nat} (hi : IsI k M a b o) : IsI k M w b o := by
  rcases hk with ⟨rfl, rfl⟩ | ⟨rfl, rfl⟩
  · exact h.isW _ _ hi
  · exact h.isB _ _ hi
theorem Chg.setNums {S : Nat → Nat → Prop} {b : Nat} {k : IntKind} {M : Nat} (hk : KM k M) : ∀ (vs : List Nat) (o : Nat) {a w : World}, Chg S a w → (∀ j, j < vs.length → IsI k M w b (o + j)) → (∀ v ∈ vs, v < M) → (∀ j, j < vs.length → b < a.heap.size → S b (o + j)) →
    Chg S a (w.setCells b o (vs.map fun v : Nat => Value.int k v)) ∧ (∀ j (hj : j < vs.length), wd (w.setCells b o (vs.map fun v : Nat => Value.int k v)) b (o + j) = vs[j]) ∧ (∀ x p, IsI k M w x p → IsI k M (w.setCells b o (vs.map fun v : Nat => Value.int k v)) x p)
  | [], _, _, _, h, _, _, _ => ⟨h, fun j hj => absurd hj (by simp), fun _ _ h => h⟩
  | v :: r, o, a, w, h, hw, hv, hS => by
    have h0 : IsI k M w b o := hw 0 (by simp)
    have h1 := h.setI hk h0 (hv v (by simp)) (fun hb => hS 0 (by simp) hb)
    obtain ⟨k1, k2, k3⟩ := Chg.setNums hk r (o + 1) h1 (fun j hj => by
      have := hw (j + 1) (by simp; omega)
      rw [show o + (j + 1) = o + 1 + j by omega] at this
      exact IsI.setW h0 (hv v (by simp)) _ _ this) (fun x hx => hv x (by simp [hx])) (fun j hj hb => by
      have := hS (j + 1) (by simp; omega) hb
      rwa [show o + (j + 1) = o + 1 + j by omega] at this)
    refine ⟨by simpa [World.setCells] using k1, fun j hj => ?_, fun x p hi => by simpa [World.setCells] using k3 x p (IsI.setW h0 (hv v (by simp)) _ _ hi)⟩
    cases j with
    | zero =>
      simp only [List.map_cons, World.setCells]
      rw [wd_congr (World.cell?_setCells_out b _ _ _ _ (fun _ _ => .inl (by simp)))]
      exact wd_setCell_same h0.cell
    | succ j =>
      have := k2 j (by simpa using hj)
      simp only [List.map_cons, World.setCells]
      rw [show o + (j + 1) = o + 1 + j by omega]
      simpa using this
/-- A slice of numbers of a kind, of one's own: n of c places. -/
structure NK (k : IntKind) (M : Nat) (w : World) (b o n c : Nat) : Prop where
  le : n ≤ c
  max : c ≤ maxLen
  isI : ∀ i, i < c → IsI k M w b (o + i)
  plain : Plain w b
  own : 17 ≤ b
theorem NK.nw {w : World} {b o n c : Nat} (h : NK .u64 WB w b o n c) : NW w b o n c := ⟨h.le, h.max, h.isI, h.plain, h.own⟩
theorem NK.chg {k : IntKind} {M : Nat} (hk : KM k M) {w w' : World} {b o n c : Nat} {S : Nat → Nat → Prop} (h : NK k M w b o n c) (hc : Chg S w w') : NK k M w' b o n c := ⟨h.le, h.max, fun i hi => hc.isI hk (h.isI i hi), hc.plain _ h.plain, h.own⟩
theorem NK.len {k : IntKind} {M : Nat} {w : World} {b o n c m : Nat} (h : NK k M w b o n c) (hm : m ≤ c) : NK k M w b o m c := ⟨hm, h.max, h.isI, h.plain, h.own⟩
theorem NK.lt {k : IntKind} {M : Nat} {w : World} {b o n c : Nat} (h : NK k M w b o n c) : b < w.heap.size := h.plain.lt
/-- A slice of numbers of a kind, nil or of one's own, that reads as a list. -/
def Ls (k : IntKind) (M : Nat) (w : World) (v : Value) (l : List Nat) : Prop := (v = .slice none 0 0 ∧ l = []) ∨ ∃ b o c, v = .slice (some ⟨b, o, none⟩) l.length c ∧ NK k M w b o l.length c ∧ ∀ j (hj : j < l.length), wd w b (o + j) = l[j]
theorem Ls.chg {k : IntKind} {M : Nat} (hk : KM k M) {w w' : World} {v : Value} {l : List Nat} {S : Nat → Nat → Prop} (h : Ls k M w v l) (hc : Chg S w w') (hd : ∀ b o, Fp v b o → ¬ S b o) : Ls k M w' v l := by
  rcases h with h | ⟨b, o, c, rfl, hn, hv⟩
  · exact .inl h
  · exact .inr ⟨b, o, c, rfl, hn.chg hk hc, fun j hj => (wd_congr (hc.cell _ _ hn.lt (hd _ _ (show Rng b o c b (o + j) from ⟨rfl, by omega, by have := hn.le; omega⟩)))).trans (hv j hj)⟩
theorem Ls.mem {k : IntKind} {M : Nat} {w : World} {v : Value} {l : List Nat} (h : Ls k M w v l) : ∀ x ∈ l, x < M := by
  rcases h with ⟨_, rfl⟩ | ⟨b, o, c, rfl, hn, hv⟩
  · simp
  · intro x hx
    obtain ⟨j, hj, rfl⟩ := List.getElem_of_mem hx
    rw [← hv j hj]
    exact (hn.isI j (by have := hn.le; omega)).lt
theorem Ls.fp_lt {k : IntKind} {M : Nat} {w : World} {v : Value} {l : List Nat} (h : Ls k M w v l) {b o : Nat} (hf : Fp v b o) : b < w.heap.size ∧ 17 ≤ b := by
  rcases h with ⟨rfl, _⟩ | ⟨b', o', c, rfl, hn, hv⟩
  · exact hf.elim
  · rw [hf.1]; exact ⟨hn.lt, hn.own⟩
/-- A new block: what stood in cs, then zeros. -/
theorem NK.newNums {k : IntKind} {M : Nat} (hM : 0 < M) {w : World} {cs : List Nat} {j G : Nat} (e : TypeId) (hcs : ∀ v ∈ cs, v < M) (hG : cs.length + j = G) (hm : G ≤ maxLen) (hs : 17 ≤ w.heap.size) :
    NK k M (w.drew.alloc (.cells ((cs.map fun v : Nat => Value.int k v).toArray ++ Builtin.zeroCells #[Value.int k 0] j) e)) w.heap.size 0 cs.length G ∧ ∀ i (hi : i < cs.length), wd (w.drew.alloc (.cells ((cs.map fun v : Nat => Value.int k v).toArray ++ Builtin.zeroCells #[Value.int k 0] j) e)) w.heap.size (0 + i) = cs[i] := by
  have hz : ∀ n : Nat, Builtin.zeroCells #[Value.int k 0] n = Array.replicate n (.int k 0) := by
    intro n
    simp only [Builtin.zeroCells]
    apply Array.ext
    · simp
    · intro j h1 h2
      simp [Nat.mod_one]
  rw [hz]
  have hc := fun i => World.cell?_alloc_new w.drew ((cs.map fun v : Nat => Value.int k v).toArray ++ Array.replicate j (Value.int k 0)) e i
  have hlo : ∀ i (hi : i < cs.length), ((cs.map fun v : Nat => Value.int k v).toArray ++ Array.replicate j (Value.int k 0))[i]? = some (.int k (cs[i] : Nat)) := fun i hi => by
    rw [Array.getElem?_append_left (by simp; omega)]
    simp [hi]
  refine ⟨⟨by omega, hm, fun i hi => ?_, Plain.new _ _ _, hs⟩, fun i hi => ?_⟩
  · rw [Nat.zero_add]
    by_cases h1 : i < cs.length
    · exact ⟨cs[i], hcs _ (List.getElem_mem h1), (hc i).trans (hlo i h1)⟩
    · refine ⟨0, hM, (hc i).trans ?_⟩
      rw [Array.getElem?_append_right (by simp; omega)]
      rw [Array.getElem?_replicate, if_pos (by simp; omega)]; rfl
  · rw [Nat.zero_add]
    exact wd_of ((hc i).trans (hlo i hi))
/-- What append leaves: the old list and the new one behind it. -/
structure App (k : IntKind) (M : Nat) (w w' : World) (z r : Value) (l : List Nat) : Prop where
  ls : Ls k M w' r l
  fp : ∀ b o, Fp r b o → Fp z b o ∨ w.heap.size ≤ b
  chg : Chg (Fp z) w w'
theorem run_append_num {P : Program} {k : IntKind} {M : Nat} (hk : KM k M) (w : World) (t tx ty e : TypeId) (i : TypeInfo) (ht : P.underlying t = some (.slice e)) (hi : P.info? e = some i) (hz0 : i.zero = some (.int k 0)) (hs : i.size = 1) (hb : i.bytes ≤ 8)
    (z : Value) (l : List Nat) (hz : Ls k M w z l) (x : Value) (vs : List Nat) (hsrc : Src P 1 tx x vs.length (vs.map fun v : Nat => Value.int k v) w) (hvs : ∀ v ∈ vs, v < M) (hne : 0 < vs.length) (hbig : l.length + vs.length ≤ 4294967296) (h17 : 17 ≤ w.heap.size) :
    ∃ r w', (Builtin.append_ #[t, tx] ty #[z, x]).run P w = .ok r w' ∧ App k M w w' z r (l ++ vs) := by
  have hM := hk.pos
  have grow : ∀ (base : Option Addr) (c : Nat), z = .slice base l.length c → c < l.length + vs.length → (Builtin.firstCells i.size l.length (.slice base l.length c)).run P w.drew = .ok (l.map fun v : Nat => Value.int k v).toArray w.drew →
      ∃ r w', (Builtin.append_ #[t, tx] ty #[z, x]).run P w = .ok r w' ∧ App k M w w' z r (l ++ vs) := by
    intro base c hzz hc hfc
    have hfit : Builtin.nextslicecap (l.length + vs.length) c * i.bytes ≤ 281474976710656 := by
      have h1 := Nat.mul_le_mul (nextslicecap_le hc) hb
      omega
    have hr := run_append_grow_src (P := P) w t tx ty e i (.int k 0) ht hi hz0 base l.length c _ hfc x vs.length (vs.map fun v : Nat => Value.int k v) (by rw [hs]; exact hsrc) hc (by omega) hfit
    have hge := grownCap_ge w (l.length + vs.length) c e
    have hle := grownCap_le_maxLen w (l.length + vs.length) c e (by unfold maxLen; omega)
    rw [← List.map_append] at hr
    have hmem : ∀ v ∈ l ++ vs, v < M := fun v hv => by
      rcases List.mem_append.1 hv with h | h
      · exact hz.mem v h
      · exact hvs v h
    have hnew := NK.newNums (k := k) hM (w := w) (cs := l ++ vs) (j := grownCap w (l.length + vs.length) c e - (l.length + vs.length)) (G := grownCap w (l.length + vs.length) c e) e hmem (by simp; omega) hle h17
    have hlen : l.length + vs.length = (l ++ vs).length := by simp
    refine ⟨_, _, (by rw [hzz]; exact hr), .inr ⟨_, _, _, by rw [← hlen], ?_, ?_⟩, ?_, ((Chg.refl _ w).drew).alloc _⟩
    · exact hnew.1
    · exact hnew.2
    · rintro b o ⟨h1, _⟩
      exact .inr (by simp at h1; omega)
  rcases hz with ⟨rfl, rfl⟩ | ⟨b, o, c, rfl, hn, hv⟩
  · exact grow none 0 rfl (by simpa using hne) (by exact run_firstCells_none w.drew i.size 0 0 0)
  · by_cases hroom : l.length + vs.length ≤ c
    · have hcell : ∀ j, j < vs.length → IsI k M w b (o + l.length + j) := fun j hj => by rw [Nat.add_assoc]; exact hn.isI _ (by omega)
      have hr := run_append_room_src (P := P) w t tx ty e i ht hi b o l.length c x vs.length (vs.map fun v : Nat => Value.int k v) (by rw [hs]; exact hsrc) hroom
        (fun j hj => by rw [hs, Nat.mul_one]; rw [(hcell j (by simpa using hj)).cell]; rfl) (fun j _ => hn.plain.free _)
      rw [hs, Nat.mul_one] at hr
      obtain ⟨k1, k2, k3⟩ := Chg.setNums (S := Rng b (o + l.length) vs.length) (b := b) hk vs (o + l.length) (Chg.refl _ w) hcell hvs (fun j hj _ => ⟨rfl, by omega, by omega⟩)
      have hlen : l.length + vs.length = (l ++ vs).length := by simp
      refine ⟨_, _, hr, .inr ⟨b, o, c, by rw [← hlen], ⟨by simpa using hroom, hn.max, fun j hj => k3 _ _ (hn.isI j hj), k1.plain _ hn.plain, hn.own⟩, fun j hj => ?_⟩, fun _ _ h => .inl h, k1.mono fun x p _ h => (show Rng b o c x p from ⟨h.1, by have := h.2.1; omega, by have := h.2.2; omega⟩)⟩
      rw [List.length_append] at hj
      by_cases hj1 : j < l.length
      · rw [List.getElem_append_left hj1, ← hv j hj1]
        exact wd_congr (k1.cell _ _ hn.lt (by unfold Rng; omega))
      · rw [List.getElem_append_right (by omega)]
        have := k2 (j - l.length) (by omega)
        rw [show o + l.length + (j - l.length) = o + j by omega] at this
        exact this
    · refine grow _ c rfl (by omega) ?_
      rw [show l.length = (l.map fun v : Nat => Value.int k v).length by simp]
      refine run_firstCells_some w.drew i.size _ ⟨b, o, none⟩ _ c _ (by rw [hs]; simp) (fun j v hj => ?_)
      have hjl : j < l.length := by
        rcases Nat.lt_or_ge j l.length with h | h
        · exact h
        · rw [List.getElem?_eq_none (by simpa using h)] at hj; cases hj
      have e1 : (⟨b, o, none⟩ : Addr).add j = ⟨b, o + j, none⟩ := by unfold Addr.add; split <;> simp_all
      rw [e1]
      have := (hn.isI j (by have := hn.le; omega)).cell
      rw [hv j hjl] at this
      simp [hjl] at hj
      rw [← hj]; exact this
theorem wpList_append_num {P : Program} {w : World} {ops : Array Oper} {rest : List Oper} {o : Oper} {a : Act} {Q : Exit → Act → World → Prop} (hgd : o.guard = none) {k : IntKind} {M : Nat} (hk : KM k M) (zo xo : Operand) (t tx e : TypeId)
    (ho : o.op = .call { callee := .builtin .append, args := #[zo, xo], argTypes := #[t, tx] }) (i : TypeInfo) (ht : P.underlying t = some (.slice e)) (hi : P.info? e = some i) (hz0 : i.zero = some (.int k 0)) (hs : i.size = 1) (hb : i.bytes ≤ 8)
    (z : Value) (l : List Nat) (hze : a.eval zo = z) (hz : Ls k M w z l) (x : Value) (hxe : a.eval xo = x) (vs : List Nat) (hsrc : Src P 1 tx x vs.length (vs.map fun v : Nat => Value.int k v) w) (hvs : ∀ v ∈ vs, v < M) (hne : 0 < vs.length) (hbig : l.length + vs.length ≤ 4294967296) (h17 : 17 ≤ w.heap.size)
    (h : ∀ r w', App k M w w' z r (l ++ vs) → wpList P ops Q rest (a.put o.dst r) w') : wpList P ops Q (o :: rest) a w := by
  refine wpList_plain hgd fun K hK => ?_
  obtain ⟨r, w', hrun, happ⟩ := run_append_num hk w t tx o.type e i ht hi hz0 hs hb z l hz x vs hsrc hvs hne hbig h17
  unfold Oper.wp
  simp [execOp, ho, resolve, invoke, builtin, hze, hxe, hrun, Result.andThen]
  exact hK _ _ (h r w' happ)
theorem step_append_num {P : Program} {w : World} {ops : Array Oper} {o : Oper} {a : Act} {K : Act → World → Prop} {Q : Exit → Act → World → Prop} {E : Prop} (hgd : o.guard = none) {k : IntKind} {M : Nat} (hk : KM k M) (zo xo : Operand) (t tx e : TypeId)
    (ho : o.op = .call { callee := .builtin .append, args := #[zo, xo], argTypes := #[t, tx] }) (i : TypeInfo) (ht : P.underlying t = some (.slice e)) (hi : P.info? e = some i) (hz0 : i.zero = some (.int k 0)) (hs : i.size = 1) (hb : i.bytes ≤ 8)
    (z : Value) (l : List Nat) (hze : a.eval zo = z) (hz : Ls k M w z l) (x : Value) (hxe : a.eval xo = x) (vs : List Nat) (hsrc : Src P 1 tx x vs.length (vs.map fun v : Nat => Value.int k v) w) (hvs : ∀ v ∈ vs, v < M) (hne : 0 < vs.length) (hbig : l.length + vs.length ≤ 4294967296) (h17 : 17 ≤ w.heap.size)
    (h : ∀ r w', App k M w w' z r (l ++ vs) → K (a.put o.dst r) w') : if Region.wanted o (yielded ops a.tmps) = true then Oper.wp P o a w K Q else E := by
  have hw : Region.wanted o (yielded ops a.tmps) = true := by simp [Region.wanted, hgd]
  rw [if_pos hw]
  obtain ⟨r, w', hrun, happ⟩ := run_append_num hk w t tx o.type e i ht hi hz0 hs hb z l hz x vs hsrc hvs hne hbig h17
  unfold Oper.wp
  simp [execOp, ho, resolve, invoke, builtin, hze, hxe, hrun, Result.andThen]
  exact h r w' happ
/-- The slice reads as these words. -/
def RdU (w : World) (A : Option Addr) (l : List Nat) : Prop := ∀ i (h : i < l.length), ∃ ad, A = some ad ∧ w.cell? (ad.add i) = some (.int .u64 (l[i] : Nat))
theorem cell_of_block {w w' : World} {a : Addr} (h : w'.heap[a.block]? = w.heap[a.block]?) : w'.cell? a = w.cell? a := by unfold World.cell?; rw [h]
theorem Chg.cellA {w w' : World} (hc : Chg No w w') {a : Addr} {v : Value} (h : w.cell? a = some v) : w'.cell? a = some v :=
  (cell_of_block (hc.block a.block (World.block_lt_of_cell? _ _ h) (fun _ f => f))).trans h
theorem RdU.chg {w w' : World} {A : Option Addr} {l : List Nat} (h : RdU w A l) (hc : Chg No w w') : RdU w' A l := fun i hi => by
  obtain ⟨ad, e, hh⟩ := h i hi
  exact ⟨ad, e, hc.cellA hh⟩
/-- The variadic slice of one number. -/
theorem Src.one {P : Program} {tx e' : TypeId} (hk : P.underlying tx = some (.slice e')) (W : World) (k : IntKind) (v : Nat) (e : TypeId) :
    Src P 1 tx (.slice (some ⟨W.heap.size, 0, none⟩) 1 1) [v].length ([v].map fun v : Nat => Value.int k v) (W.alloc (.cells #[.int k v] e)) := by
  refine Src.ofSlice _ hk _ 1 1 _ (by simp) (fun j u hj => ?_) (fun u hu => by simp at hu; subst hu; rfl)
  have e1 : (⟨W.heap.size, 0, none⟩ : Addr).add j = ⟨W.heap.size, j, none⟩ := by unfold Addr.add; split <;> simp_all
  rw [e1, World.cell?_alloc_new]
  cases j with
  | zero => simpa using hj
  | succ j => simp at hj
theorem Ls.alloc {k : IntKind} {M : Nat} (hk : KM k M) {w : World} {v : Value} {l : List Nat} (h : Ls k M w v l) (ob : Obj) : Ls k M (w.alloc ob) v l := h.chg hk ((Chg.refl No w).alloc ob) (fun _ _ _ f => f)
theorem km64 : KM .u64 WB := .inl ⟨rfl, rfl⟩
theorem km8 : KM .u8 256 := .inr ⟨rfl, rfl⟩
theorem Nt.sl {w : World} {v : Value} {X : Nat} (h : Nt w v X) : ∃ a n c, v = .slice a n c := by
  rcases h with ⟨h, _⟩ | ⟨b, o, n, c, h, hn, _⟩
  · exact ⟨_, _, _, h⟩
  · exact ⟨_, _, _, h⟩
/-- The number that a list of words stands for, the lowest first. -/
def Vl (l : List Nat) : Nat := V (fun i => l.getD i 0) l.length
theorem Ls.val {w : World} {v : Value} {l : List Nat} (h : Ls .u64 WB w v l) : (v = .slice none 0 0 ∧ l = []) ∨ ∃ b o c, v = .slice (some ⟨b, o, none⟩) l.length c ∧ NW w b o l.length c ∧ Val w b o l.length = Vl l := by
  rcases h with h | ⟨b, o, c, e, hn, hv⟩
  · exact .inl h
  · exact .inr ⟨b, o, c, e, hn.nw, V_congr _ fun i hi => by rw [hv i hi]; simp [hi]⟩
set_option maxHeartbeats 1000000 in
theorem nat_norm_any (v : Value) (l : List Nat) (w : World) (h : Ls .u64 WB w v l) (hl : l.length < 1048576) :
    Calls Tryz.prog 147 #[v] w fun e w' => ∃ r, e = .returned r ∧ Nt w r (Vl l) ∧ (∀ b o, Fp r b o → Fp v b o) ∧ w = w' := by
  rcases h.val with ⟨rfl, rfl⟩ | ⟨b, o, c, rfl, hn, hv⟩
  · go_enter Tryz.func147, Tryz.ntmps147
    go_wp2_with fail
    go_loop [3] (fun i => i = .int .i64 0) (fun _ => 0)
    case atStart => rfl
    case round =>
      subst hrel
      go_wp2_with fail
      go_ret
      exact ⟨_, rfl, .inl ⟨rfl, rfl⟩, fun _ _ f => f, rfl⟩
  · refine (nat_norm b o _ c w hn hl).mono ?_
    rintro e w' ⟨k, rfl, hr, hk, rfl⟩
    exact ⟨_, rfl, by rw [← hv]; exact hr.nt, fun _ _ f => f, rfl⟩
/-- The cells of an Int: sign, magnitude. -/
structure In (w : World) (b : Nat) (n : Bool) (v : Value) : Prop where
  c0 : w.cell? ⟨b, 0, none⟩ = some (.bool n)
  c1 : w.cell? ⟨b, 1, none⟩ = some v
  plain : Plain w b
  own : 17 ≤ b
theorem In.chg {S : Nat → Nat → Prop} {w w' : World} {b : Nat} {n : Bool} {v : Value} (h : In w b n v) (hc : Chg S w w') (hS : ∀ o, ¬ S b o) : In w' b n v :=
  ⟨(hc.cell _ _ h.plain.lt (hS 0)).trans h.c0, (hc.cell _ _ h.plain.lt (hS 1)).trans h.c1, hc.plain _ h.plain, h.own⟩
theorem In.new (w : World) (hs : 17 ≤ w.heap.size) : In (w.alloc (.cells #[.bool false, .slice none 0 0] 87)) w.heap.size false (.slice none 0 0) :=
  ⟨World.cell?_alloc_new _ _ _ _, World.cell?_alloc_new _ _ _ _, Plain.new _ _ _, hs⟩
set_option maxHeartbeats 1000000 in
theorem int_SetBits (b : Nat) (v : Value) (l : List Nat) (a u : Option Addr) (n0 : Bool) (x y : Nat) (w : World) (hi : In w b n0 (.slice u x y)) (h : Ls .u64 WB w v l) (hl : l.length < 1048576) :
    Calls Tryz.prog 107 #[.pointer (some ⟨b, 0, none⟩), v] w fun e w' => e = .returned (.pointer (some ⟨b, 0, none⟩)) ∧ ∃ r, In w' b false r ∧ (∀ b o, Fp r b o → Fp v b o) ∧ Nt w r (Vl l) ∧ Chg (Blk b) w w' := by
  have H1 := Lib.hid (nat_norm_any v l w h hl)
  have HP := Lib.hid fun r => (Chg.refl (Blk b) w).setO r hi.c1 (by simp) (by simp) (fun _ => rfl)
  have f0 := hi.plain.free 0
  have f1 := hi.plain.free 1
  have P0 := Lib.hid hi.plain
  have O0 := Lib.hid hi.own
  obtain ⟨c0, c1, -, -⟩ := hi
  clear h hl
  go_enter Tryz.func107, Tryz.ntmps107
  go_wp2_with fail
  refine H1.out.mono ?_
  rintro e w1 ⟨r, rfl, hr, hf, rfl⟩
  obtain ⟨ra, rn, rc, rfl⟩ := hr.sl
  have R := Lib.hid hr
  have F := Lib.hid hf
  clear hr hf
  go_wp2_with fail
  go_ret
  have k1 := cell_setCell_ne w b 1 b 0 (.slice ra rn rc) (.inr (by omega))
  have k3 := HP.out (.slice ra rn rc)
  refine ⟨rfl, _, ⟨World.cell?_setCell_same _ _ _ (k1.trans c0), ?_, (P0.out.setCell _ _).setCell _ _, O0.out⟩, F.out, R.out, k3.setO _ (k1.trans c0) (by simp) (by simp) (fun _ => rfl)⟩
  rw [cell_setCell_ne _ _ _ _ _ _ (.inr (by omega))]
  exact World.cell?_setCell_same _ _ _ c1
set_option maxHeartbeats 1000000 in
theorem impl_of (A : Option Addr) (c : Nat) (l : List Nat) (w : World) (hl : l.length ≤ 1000) (hm : ∀ x ∈ l, x < WB) (hr : RdU w A l) (hs : 17 ≤ w.heap.size) :
    Calls Tryz.prog 106 #[.agg #[.bool false, .slice A l.length c]] w fun e w' => ∃ b r, e = .returned (.pointer (some ⟨b, 0, none⟩)) ∧ In w' b false r ∧ w.heap.size ≤ b ∧ Nt w' r (Vl l) ∧ (∀ x p, Fp r x p → w.heap.size ≤ x ∧ x ≠ b) ∧ Chg No w w' := by
  obtain ⟨ci, hi1, hi2, hi3, hi4⟩ := info_of info149
  go_enter Tryz.func106, Tryz.ntmps106
  go_wp2_with fail
  go_loopw [3, 10] (fun v i wr => ∃ k : Nat, k ≤ l.length ∧ i = .int .i64 k ∧ Hid (Ls .u64 WB wr v (l.take k)) ∧ Hid (∀ b o, Fp v b o → w.heap.size < b) ∧ Hid (Chg No (w.alloc (.cells #[.bool false, .slice A l.length c] 24)) wr)) (fun _ i _ => l.length - (intOf i).toNat)
  case atStart => exact ⟨0, by omega, rfl, Lib.hid (.inl ⟨rfl, rfl⟩), Lib.hid (fun _ _ f => f.elim), Lib.hid (Chg.refl No _)⟩
  case round =>
    obtain ⟨k, hk, rfl, hL, hF, hC⟩ := hrel
    have hC1 := Lib.hid (((Chg.refl No w).alloc _).then hC.out (fun _ _ _ f => f))
    have hsz := hC1.out.size
    by_cases hlt : k < l.length
    · obtain ⟨ad, rfl, hcell⟩ := hr.chg hC1.out k hlt
      have i1 : (k : Int) < (l.length : Int) := by omega
      have T := Lib.hid (List.take_succ_eq_append_getElem hlt)
      have HM := Lib.hid (hm _ (List.getElem_mem hlt))
      go_wp2_with (refine wpList_append_num rfl km64 (.tmp 14) (.tmp 16) 84 84 149 rfl ci Tryz.underlying84 hi1 hi2 hi3 (by rw [hi4]; omega) _ (l.take k) rfl (Ls.alloc km64 hL.out _) _ rfl [l[k]] (Src.one Tryz.underlying84 _ _ _ _) (by simpa using HM.out) (by simp) (by simp; omega) (by simp; omega) ?_; intro r w2 happ; have HA := Lib.hid happ; clear happ)
      go_roundw
      case rel =>
        refine ⟨k + 1, by omega, by go_num, Lib.hid (by rw [T.out]; exact HA.out.ls), Lib.hid (fun b o f => ?_), Lib.hid ((hC.out.alloc _).then HA.out.chg (fun b o hb f => ?_))⟩
        · rcases HA.out.fp b o f with f | f
          · exact hF.out b o f
          · have := hC.out.size
            simp at f this; omega
        · have := hF.out b o f
          simp at hb
          omega
      case measure => simp [intOf]; omega
    · obtain rfl : k = l.length := by omega
      have cb := hC.out.cell w.heap.size 0 (by simp) (fun f => f)
      rw [World.cell?_alloc_new] at cb
      have cb' : wr.cell? ⟨w.heap.size, 0, none⟩ = some (.bool false) := cb
      clear cb
      have hL' := hL.out
      rw [List.take_length] at hL'
      have hI := In.new wr (by omega)
      have HB := Lib.hid (int_SetBits wr.heap.size u3 l none none false 0 0 (wr.alloc (.cells #[.bool false, .slice none 0 0] 87)) hI (hL'.alloc km64 _) (by omega))
      clear hL' hI hr hm
      go_wp2_with fail
      refine HB.out.mono ?_
      rintro e w2 ⟨rfl, r, hi, hf, hn, hc⟩
      have cb2 : w2.cell? ⟨w.heap.size, 0, none⟩ = some (.bool false) := by
        have hsz1 : w.heap.size < wr.heap.size := by have := hC.out.size; simp at this; omega
        refine (hc.cell _ _ (by simp; omega) (by unfold Blk; omega)).trans ?_
        rw [World.cell?_alloc_lt _ _ _ (by show w.heap.size < wr.heap.size; have := hC.out.size; simp at this; omega)]
        exact cb'
      have HI := Lib.hid hi
      have HF := Lib.hid hf
      have HN := Lib.hid hn
      have HC := Lib.hid hc
      clear hi hf hn hc cb'
      go_wp2_with fail
      go_ret
      have hlt2 : ∀ x p, Fp u3 x p → x < wr.heap.size := fun x p f => (hL.out.fp_lt f).1
      refine ⟨_, r, rfl, HI.out, by have := hC.out.size; simp at this; omega, HN.out.chg HC.out (fun x p f => ?_), fun x p f => ?_, (hC1.out.alloc _).then HC.out (fun x p hx f => ?_)⟩
      · exact fun e => Nat.ne_of_lt (hlt2 x p (HF.out x p f)) e
      · have h1 := hlt2 x p (HF.out x p f)
        have h2 := hF.out x p (HF.out x p f)
        exact ⟨by omega, by omega⟩
      · have := hC.out.size; simp at this; simp [Blk] at f; omega
theorem and1 {a : Nat} (h : a < WB) : bits BinOp.and .u64 (a : Int) 1 = ((a % 2 : Nat) : Int) := by
  rw [show (1 : Int) = ((1 : Nat) : Int) from rfl, bits_and_u64_nat a 1 h (by decide)]
  congr 1
  rw [show (1 : Nat) = 2 ^ 1 - 1 from rfl, Nat.and_two_pow_sub_one_eq_mod]
/-- What is left of a number behind its last i bits: 0 or 1. -/
def stickyOf (X i : Nat) : Nat := if X % 2 ^ i = 0 then 0 else 1
theorem pow_split (i : Nat) : 2 ^ i = WB ^ (i / 64) * 2 ^ (i % 64) := by
  rw [WB_eq, ← Nat.pow_mul, ← Nat.pow_add, show 64 * (i / 64) + i % 64 = i by omega]
theorem V_hd (f : Nat → Nat) (n : Nat) : V f (n + 1) = f 0 + WB * V (fun j => f (1 + j)) n := by
  have := V_split f 1 n
  rw [Nat.add_comm 1 n] at this
  rw [this]; simp [V]
theorem V_mod2 (f : Nat → Nat) (m i : Nat) (hf : ∀ j, j < m → f j < WB) (hi : i / 64 < m) : V f m % 2 ^ i = V f (i / 64) + f (i / 64) % 2 ^ (i % 64) * WB ^ (i / 64) := by
  obtain ⟨n, hn⟩ : ∃ n, m = i / 64 + (n + 1) := ⟨m - i / 64 - 1, by omega⟩
  have h1 := V_split f (i / 64) (n + 1)
  rw [← hn] at h1
  rw [h1, V_hd, pow_split i, Nat.mod_mul]
  have hlt : V f (i / 64) < WB ^ (i / 64) := V_lt _ fun j hj => hf j (by omega)
  have hp : 0 < WB ^ (i / 64) := Nat.pow_pos WB_pos
  rw [Nat.add_mul_mod_self_left, Nat.mod_eq_of_lt hlt, Nat.add_mul_div_left _ _ hp, Nat.div_eq_of_lt hlt, Nat.zero_add, Nat.add_zero]
  have hw : WB = 2 ^ (i % 64) * 2 ^ (64 - i % 64) := by rw [← Nat.pow_add, show i % 64 + (64 - i % 64) = 64 by omega]; rfl
  generalize V (fun j => f (i / 64 + (1 + j))) n = Y
  generalize WB ^ (i / 64) = B
  rw [hw, Nat.mul_assoc, Nat.add_mul_mod_self_left, Nat.mul_comm]
theorem shl_zero {x s : Nat} (hs : s < 64) : (IntKind.u64.wrap ((x : Int) * 2 ^ (64 - s)) != 0) = decide (x % 2 ^ s ≠ 0) := by
  rw [cast_mul_pow, wrap_cast]
  have h : x * 2 ^ (64 - s) % WB = 2 ^ (64 - s) * (x % 2 ^ s) := by
    rw [WB_eq, show (64 : Nat) = s + (64 - s) by omega, Nat.pow_add, Nat.mul_comm (2 ^ s), show s + (64 - s) - s = 64 - s by omega, Nat.mul_comm x, Nat.mul_mod_mul_left]
  rw [h]
  have hp := Nat.two_pow_pos (64 - s)
  by_cases e : x % 2 ^ s = 0
  · simp [e]
  · have : 2 ^ (64 - s) * (x % 2 ^ s) ≠ 0 := Nat.mul_ne_zero (by omega) e
    have h2 : ((2 ^ (64 - s) * (x % 2 ^ s) : Nat) : Int) ≠ 0 := Int.natCast_ne_zero.2 this
    rw [decide_eq_true e]
    exact bne_iff_ne.2 h2
set_option maxHeartbeats 1000000 in
theorem nat_bit (xb xo m xc i : Nat) (w : World) (hx : IsW w xb (xo + i / 64)) (hm2 : m ≤ 1000) (hi : i < 64 * m) :
    Calls Tryz.prog 254 #[.slice (some ⟨xb, xo, none⟩) m xc, .int .u64 i] w fun e w' => e = .returned (.int .u64 (wd w xb (xo + i / 64) / 2 ^ (i % 64) % 2 : Nat)) ∧ w = w' := by
  have cx := hx.cell
  have lx := hx.lt
  have t1 : decide ((m : Int) ≤ (i : Int) / 64) = false := decide_eq_false (by omega)
  have i1 : (i : Int) / 64 < (m : Int) := by omega
  go_enter Tryz.func254, Tryz.ntmps254
  go_wp2_with fail
  go_ret
  refine ⟨ret_int ?_, rfl⟩
  rw [cast_div_pow]
  exact and1 (Nat.lt_of_le_of_lt (Nat.div_le_self _ _) lx)
set_option maxHeartbeats 1000000 in
theorem nat_sticky (xb xo m xc i : Nat) (w : World) (hx : NW w xb xo m xc) (hm2 : m ≤ 1000) (hi : i < 64 * m) :
    Calls Tryz.prog 255 #[.slice (some ⟨xb, xo, none⟩) m xc, .int .u64 i] w fun e w' => e = .returned (.int .u64 (stickyOf (Val w xb xo m) i : Nat)) ∧ w = w' := by
  have hle := hx.le
  have H := Lib.hid (V_mod2 (fun j => wd w xb (xo + j)) m i (fun j hj => (hx.isW j (by omega)).lt) (by omega))
  have t1 : decide ((m : Int) ≤ (i : Int) / 64) = false := decide_eq_false (by omega)
  have i1 : (i : Int) / 64 < (m : Int) := by omega
  have i2 : (i : Int) / 64 ≤ (m : Int) := by omega
  have i3 : (i : Int) / 64 ≤ (xc : Int) := by omega
  go_enter Tryz.func255, Tryz.ntmps255
  go_wp2_with fail
  go_loop [22] (fun v => ∃ k : Nat, k ≤ i / 64 ∧ v = .int .i64 k ∧ Hid (∀ j, j < k → wd w xb (xo + j) = 0)) (fun v => i / 64 - (intOf v).toNat)
  case atStart => exact ⟨0, by omega, rfl, Lib.hid (fun j h => by omega)⟩
  case round =>
    obtain ⟨k, hk, rfl, hZ⟩ := hrel
    by_cases hlt : k < i / 64
    · have hc := (hx.isW k (by omega)).cell
      have j1 : (k : Int) < (i : Int) / 64 := by omega
      by_cases hz : wd w xb (xo + k) = 0
      · have t1 : ((wd w xb (xo + k) : Int) != 0) = false := by simp [hz]
        have HW := Lib.hid hz
        clear hz
        go_wp2_with fail
        go_round
        case rel =>
          refine ⟨k + 1, by omega, by go_num, Lib.hid (fun j h1 => ?_)⟩
          by_cases e : j = k
          · rw [e]; exact HW.out
          · exact hZ.out j (by omega)
        case measure => simp [intOf]; omega
      · have t1 : ((wd w xb (xo + k) : Int) != 0) = true := by simp; omega
        have HW := Lib.hid hz
        clear hz
        go_wp2_with fail
        go_ret
        refine ⟨ret_int ?_, rfl⟩
        unfold stickyOf Val
        rw [if_neg]
        · rfl
        · intro h0
          rw [H.out] at h0
          have h1 := V_split (fun j => wd w xb (xo + j)) (k + 1) (i / 64 - (k + 1))
          rw [show k + 1 + (i / 64 - (k + 1)) = i / 64 by omega] at h1
          have h2 : V (fun j => wd w xb (xo + j)) (k + 1) = V (fun j => wd w xb (xo + j)) k + wd w xb (xo + k) * WB ^ k := rfl
          have h3 : 0 < wd w xb (xo + k) * WB ^ k := Nat.mul_pos (Nat.pos_of_ne_zero HW.out) (Nat.pow_pos WB_pos)
          omega
    · obtain rfl : k = i / 64 := by omega
      have hc := (hx.isW (i / 64) (by omega)).cell
      have hV0 : V (fun j => wd w xb (xo + j)) (i / 64) = 0 := by
        have h1 := Val_zeros w xb xo 0 (i / 64) (fun j _ h => hZ.out j (by omega))
        rw [Nat.zero_add] at h1
        exact h1
      have HV0 := Lib.hid hV0
      clear hV0
      by_cases hz : wd w xb (xo + i / 64) % 2 ^ (i % 64) = 0
      · have t2 : (IntKind.u64.wrap ((wd w xb (xo + i / 64) : Int) * 2 ^ (64 - i % 64)) != 0) = false := by rw [shl_zero (by omega)]; simp [hz]
        have HW := Lib.hid hz
        clear hz
        go_wp2_with fail
        go_ret
        refine ⟨ret_int ?_, rfl⟩
        unfold stickyOf Val
        rw [if_pos]
        · rfl
        · rw [H.out, HV0.out, HW.out]; simp
      · have t2 : (IntKind.u64.wrap ((wd w xb (xo + i / 64) : Int) * 2 ^ (64 - i % 64)) != 0) = true := by rw [shl_zero (by omega)]; simp [hz]
        have HW := Lib.hid hz
        clear hz
        go_wp2_with fail
        go_ret
        refine ⟨ret_int ?_, rfl⟩
        unfold stickyOf Val
        rw [if_neg]
        · rfl
        · intro h0
          rw [H.out] at h0
          have h3 : 0 < wd w xb (xo + i / 64) % 2 ^ (i % 64) * WB ^ (i / 64) := Nat.mul_pos (Nat.pos_of_ne_zero HW.out) (Nat.pow_pos WB_pos)
          omega
/-- The places of a Float and of its mantissa. -/
def FS (b xb xo m : Nat) : Nat → Nat → Prop := fun x o => Blk b x o ∨ Rng xb xo m x o
theorem mod_le_pow {x r k : Nat} (h : x % 2 ^ r = 0) (hk : k ≤ r) : x % 2 ^ k = 0 := by
  have : 2 ^ k ∣ 2 ^ r := Nat.pow_dvd_pow 2 hk
  exact Nat.mod_eq_zero_of_dvd (Nat.dvd_trans this (Nat.dvd_of_mod_eq_zero h))
theorem bit_zero {x r : Nat} (h : x % 2 ^ (r + 1) = 0) : x / 2 ^ r % 2 = 0 := by
  have h1 := Nat.mod_pow_succ (x := x) (b := 2) (k := r)
  rw [h] at h1
  have h2 := Nat.two_pow_pos r
  rcases Nat.eq_zero_or_pos (x / 2 ^ r % 2) with e | e
  · exact e
  · have : 0 < 2 ^ r * (x / 2 ^ r % 2) := Nat.mul_pos h2 e
    omega
theorem andNot_low {x t : Nat} (hx : x < WB) (ht : t < 64) (hd : x % 2 ^ t = 0) : bits BinOp.andNot .u64 (x : Int) (IntKind.u64.wrap (IntKind.u64.wrap (2 ^ t) - 1)) = (x : Int) := by
  have h2 : 2 ^ t < WB := by rw [WB_eq]; exact Nat.pow_lt_pow_right (by decide) ht
  have h3 := Nat.two_pow_pos t
  have e : IntKind.u64.wrap (IntKind.u64.wrap (2 ^ t) - 1) = ((2 ^ t - 1 : Nat) : Int) := by
    rw [show (2 : Int) ^ t = ((2 ^ t : Nat) : Int) by rw [Int.natCast_pow]; rfl, wrap_cast, Nat.mod_eq_of_lt h2, show ((2 ^ t : Nat) : Int) - 1 = ((2 ^ t - 1 : Nat) : Int) by omega, wrap_cast, Nat.mod_eq_of_lt (by omega)]
  rw [e, u64_andNot_nat x _ hx (by unfold WB at h2; omega)]
  congr 1
  obtain ⟨q, rfl⟩ := Nat.dvd_of_mod_eq_zero hd
  have e2 : 18446744073709551615 - (2 ^ t - 1) = 2 ^ t * (2 ^ (64 - t) - 1) := by
    rw [Nat.mul_sub, ← Nat.pow_add, show t + (64 - t) = 64 by omega]
    unfold WB at h2; omega
  have hq : q < 2 ^ (64 - t) := by
    rw [WB_eq, show (64 : Nat) = t + (64 - t) by omega, Nat.pow_add] at hx
    exact Nat.lt_of_mul_lt_mul_left hx
  rw [e2, Nat.mul_comm (2 ^ t) q, Nat.mul_comm (2 ^ t) (2 ^ (64 - t) - 1), ← Nat.shiftLeft_eq, ← Nat.shiftLeft_eq, ← Nat.shiftLeft_and_distrib, Nat.and_two_pow_sub_one_eq_mod, Nat.mod_eq_of_lt hq]
theorem NtAt.setSame {w : World} {b o n c X k : Nat} (h : NtAt w b o n c X) (hk : k < c) : NtAt (w.setCell ⟨b, o + k, none⟩ (.int .u64 (wd w b (o + k) : Nat))) b o n c X ∧ Chg (Rng b (o + k) 1) w (w.setCell ⟨b, o + k, none⟩ (.int .u64 (wd w b (o + k) : Nat))) := by
  have hw := h.1.isW k hk
  have hc := Chg.setW (S := Rng b (o + k) 1) (Chg.refl _ w) hw hw.lt (fun _ => ⟨rfl, by omega, by omega⟩)
  have he : ∀ i, wd (w.setCell ⟨b, o + k, none⟩ (.int .u64 (wd w b (o + k) : Nat))) b i = wd w b i := by
    intro i
    by_cases e : i = o + k
    · subst e; exact wd_setCell_same hw.cell
    · exact wd_setCell_ne (.inr e)
  refine ⟨⟨h.1.chg hc, (Val_congr fun i hi => he _).trans h.2.1, ?_⟩, hc⟩
  rw [he]; exact h.2.2
set_option maxRecDepth 100000 in
set_option maxHeartbeats 4000000 in
theorem float_round_exact (b P M : Nat) (a : Int) (n : Bool) (e : Int) (xb xo m xc X : Nat) (w : World) (hf : Fl w b P M a 1 n (.slice (some ⟨xb, xo, none⟩) m xc) e) (hx : NtAt w xb xo m xc X)
    (hm0 : 0 < m) (hm : m ≤ 1000) (hP1 : 64 * (m - 1) < P) (hP2 : P < 65536) (hd : P < 64 * m → X % 2 ^ (64 * m - P) = 0) (hne : xb ≠ b) (hM : M < 6) :
    Calls Tryz.prog 200 #[.pointer (some ⟨b, 0, none⟩), .int .u64 0] w fun r w' => r = .returned (.tuple #[]) ∧ Fl w' b P M 0 1 n (.slice (some ⟨xb, xo, none⟩) m xc) e ∧ NtAt w' xb xo m xc X ∧ Chg (FS b xb xo m) w w' := by
  have F1 := Lib.hid (hf.set2 0)
  have C1 := Lib.hid (hf.put2 (Chg.refl (FS b xb xo m) w) 0 (fun _ => .inl rfl))
  have N1 := Lib.hid (hx.1.chg C1.out)
  have V1 : Hid (Val (w.setCell ⟨b, 2, none⟩ (.int .i8 0)) xb xo m = X) := Lib.hid ((Val_congr fun i hi => wd_setCell_ne (.inl hne)).trans hx.2.1)
  have NT : Hid (NtAt (w.setCell ⟨b, 2, none⟩ (.int .i8 0)) xb xo m xc X) := Lib.hid ⟨N1.out, V1.out, by rw [wd_setCell_ne (.inl hne)]; exact hx.2.2⟩
  have e1 : IntKind.u32.wrap (m : Int) = (m : Int) := by rw [IntKind.wrap_u32]; omega
  obtain ⟨c0, c1, c2, c3, c4, c5, c6, -, hp, -, -, -⟩ := hf
  have f2 := hp.free 2
  clear hp hx
  by_cases hc : 64 * m ≤ P
  · have i1 : (m : Int) * 64 ≤ (P : Int) := by omega
    go_enter Tryz.func200, Tryz.ntmps200
    go_wp2_with fail
    refine bodyPost_ret (results_none rfl _ _ _) rfl ?_
    exact ⟨rfl, F1.out, NT.out, C1.out⟩
  · have i1 : ¬ (m : Int) * 64 ≤ (P : Int) := by omega
    have i2 : 0 ≤ (m : Int) * 64 - P - 1 := by omega
    have i3 : (m : Int) * 64 - P - 1 ≤ 62 := by omega
    have e2 : ((P : Int) + 63) / 64 = (m : Int) := by omega
    have hr := hd (by omega)
    have er : ((64 * m - P - 1 : Nat) : Int) = (m : Int) * 64 - P - 1 := by omega
    have hX0 : wd (w.setCell ⟨b, 2, none⟩ (.int .i8 0)) xb (xo + 0) % 2 ^ (64 * m - P) = 0 := by
      have h1 := V_mod2 (fun j => wd (w.setCell ⟨b, 2, none⟩ (.int .i8 0)) xb (xo + j)) m (64 * m - P) (fun j hj => (N1.out.isW j (by have := N1.out.le; omega)).lt) (by omega)
      rw [show (64 * m - P) / 64 = 0 by omega, show (64 * m - P) % 64 = 64 * m - P by omega] at h1
      have h2 := V1.out
      unfold Val at h2
      rw [h2, hr] at h1
      simp [V] at h1
      exact h1.symm
    have B1 := nat_bit xb xo m xc (64 * m - P - 1) (w.setCell ⟨b, 2, none⟩ (.int .i8 0)) (N1.out.isW _ (by have := N1.out.le; omega)) hm (by omega)
    have B2 := nat_sticky xb xo m xc (64 * m - P - 1) (w.setCell ⟨b, 2, none⟩ (.int .i8 0)) N1.out hm (by omega)
    rw [show (64 * m - P - 1) / 64 = 0 by omega, show (64 * m - P - 1) % 64 = 64 * m - P - 1 by omega, bit_zero (by rw [show 64 * m - P - 1 + 1 = 64 * m - P by omega]; exact hX0), er] at B1
    rw [V1.out, show stickyOf X (64 * m - P - 1) = 0 from if_pos (mod_le_pow hr (by omega)), er] at B2
    have H1 := Lib.hid B1
    have H2 := Lib.hid B2
    have cx := (N1.out.isW 0 (by have := N1.out.le; omega)).cell
    have fx := N1.out.plain.free (xo + 0)
    rw [Nat.add_zero] at cx fx
    have HX0 := Lib.hid hX0
    clear B1 B2 hd hr er hX0
    go_enter Tryz.func200, Tryz.ntmps200
    go_wp2_with fail
    refine H1.out.mono ?_
    rintro r w1 ⟨rfl, rfl⟩
    go_wp2_with fail
    refine H2.out.mono ?_
    rintro r w1 ⟨rfl, rfl⟩
    go_wp2_with fail
    go_end0
    have lx := (N1.out.isW 0 (by have := N1.out.le; omega)).lt
    rw [Nat.add_zero] at lx
    obtain ⟨k1, k2⟩ := NT.out.setSame (k := 0) (by have := N1.out.le; omega)
    rw [Nat.add_zero] at k1 k2
    rw [show m * 64 - P = 64 * m - P by omega, andNot_low lx (by omega) (by have := HX0.out; rwa [Nat.add_zero] at this)]
    exact ⟨rfl, F1.out.chg k2 (fun o h => hne h.1.symm), k1, C1.out.then k2 (fun x o _ h => .inr ⟨h.1, by have := h.2; omega, by have := h.2; omega⟩)⟩
theorem blen_spec {x : Nat} (h : x ≠ 0) : 1 ≤ blen x ∧ 2 ^ (blen x - 1) ≤ x ∧ x < 2 ^ blen x := by
  unfold blen
  rw [if_neg h, Nat.add_sub_cancel]
  exact ⟨by omega, Nat.log2_self_le h, Nat.lt_log2_self⟩
theorem Val_topne {w : World} {b o n : Nat} (hn : 0 < n) (hw : ∀ i, i < n → IsW w b (o + i)) (h : WB ^ (n - 1) ≤ Val w b o n) : wd w b (o + (n - 1)) ≠ 0 := by
  intro e
  obtain ⟨k, rfl⟩ : ∃ k, n = k + 1 := ⟨n - 1, by omega⟩
  rw [Nat.add_sub_cancel] at h e
  rw [Val_succ, e, Nat.zero_mul, Nat.add_zero] at h
  have := Val_lt (w := w) (b := b) (o := o) (n := k) fun i hi => hw i (by omega)
  omega
theorem WB_two (m : Nat) : WB ^ m = 2 ^ (64 * m) := by rw [WB_eq, ← Nat.pow_mul]
/-- The bits of a number of m words. -/
theorem NtAt.blen {w : World} {b o m c X : Nat} (h : NtAt w b o m c X) (hm : 0 < m) : ∃ t, t = wd w b (o + (m - 1)) ∧ t ≠ 0 ∧ t < WB ∧ blen X = 64 * (m - 1) + Lib.bitLen t ∧ 1 ≤ Lib.bitLen t ∧ Lib.bitLen t ≤ 64 := by
  have hw := h.1.isW (m - 1) (by have := h.1.le; omega)
  have ht0 := h.2.2.resolve_left (by omega)
  obtain ⟨b1, b2, b3, b4⟩ := bitLen_spec ht0 hw.lt
  refine ⟨_, rfl, ht0, hw.lt, ?_, b2, b1⟩
  rw [← h.2.1]
  obtain ⟨k, rfl⟩ : ∃ k, m = k + 1 := ⟨m - 1, by omega⟩
  rw [Nat.add_sub_cancel] at *
  rw [Val_succ]
  exact blen_top b3 b4 b2 (Val_lt fun i hi => h.1.isW i (by have := h.1.le; omega)) (WB_pow _)
theorem blen_words {w : World} {b o m c X : Nat} (h : NtAt w b o m c X) (hm : 0 < m) : 64 * (m - 1) < blen X ∧ blen X ≤ 64 * m := by
  obtain ⟨t, _, _, _, h1, h2, h3⟩ := h.blen hm
  omega
/-- A number, its topmost bit moved up to the end of m words. -/
def upTo (X m : Nat) : Nat := X * 2 ^ (64 * m - blen X)
theorem upTo_lt {X m : Nat} (h0 : X ≠ 0) (h : blen X ≤ 64 * m) : upTo X m < WB ^ m := by
  obtain ⟨_, _, h2⟩ := blen_spec h0
  unfold upTo
  rw [WB_two, show 64 * m = blen X + (64 * m - blen X) by omega, Nat.pow_add, show blen X + (64 * m - blen X) - blen X = 64 * m - blen X by omega]
  exact Nat.mul_lt_mul_of_pos_right h2 (Nat.two_pow_pos _)
theorem upTo_ge {X m : Nat} (h0 : X ≠ 0) (h : blen X ≤ 64 * m) : 2 ^ (64 * m - 1) ≤ upTo X m := by
  obtain ⟨h1, h2, _⟩ := blen_spec h0
  unfold upTo
  rw [show 64 * m - 1 = (blen X - 1) + (64 * m - blen X) by omega, Nat.pow_add]
  exact Nat.mul_le_mul_right _ h2
set_option maxRecDepth 100000 in
set_option maxHeartbeats 1000000 in
theorem fnorm_pos (xb xo m xc X : Nat) (w : World) (hx : NtAt w xb xo m xc X) (hm0 : 0 < m) (hm : m ≤ 1000) :
    Calls Tryz.prog 187 #[.slice (some ⟨xb, xo, none⟩) m xc] w fun e w' => ∃ s : Int, e = .returned (.int .i64 s) ∧ NtAt w' xb xo m xc (upTo X m) ∧ Chg (Rng xb xo m) w w' := by
  obtain ⟨t, ht, ht0, htw, hB, hb1, hb2⟩ := hx.blen hm0
  have hle := hx.1.le
  have hX0 : X ≠ 0 := by
    intro e; rw [e] at hB; simp [Go.Proofs.YtacfhndledcmgaaGreatDoor.blen] at hB; omega
  have hw := hx.1.isW (m - 1) (by omega)
  have cx : w.cell? ⟨xb, xo + (m - 1), none⟩ = some (.int .u64 t) := by rw [ht]; exact hw.cell
  have c1 : (0 : Int) ≤ (m : Int) - 1 := by omega
  have c2 : (m : Int) - 1 < m := by omega
  have c3 : ((m : Int) - 1).toNat = m - 1 := by omega
  obtain ⟨s, hs⟩ : ∃ s, s = 64 - Lib.bitLen t := ⟨_, rfl⟩
  have hsB : s = 64 * m - Go.Proofs.YtacfhndledcmgaaGreatDoor.blen X := by omega
  have HN := nlz t htw w
  rw [← hs] at HN
  have HN := Lib.hid HN
  have e1 : IntKind.i64.wrap (s : Int) = (s : Int) := IntWalk.i64_in _ (by omega)
  have hs64 : s < 64 := by omega
  have U1 := upTo_lt hX0 (m := m) (by omega)
  have U2 := upTo_ge hX0 (m := m) (by omega)
  have HU : upTo X m = X * 2 ^ s := by unfold upTo; rw [hsB]
  by_cases hs0 : s = 0
  · have HF : Hid (NtAt w xb xo m xc (upTo X m)) := Lib.hid (by rw [HU, hs0]; simpa using hx)
    have t1 : decide (0 < s) = false := by simp [hs0]
    clear hx ht ht0 hs hsB hs0 U1 U2 HU hw hX0 hB hb1 hb2 htw
    go_enter Tryz.func187, Tryz.ntmps187
    go_wp2_with fail
    refine HN.out.mono ?_
    rintro r w1 ⟨rfl, rfl⟩
    go_wp2_with fail
    go_ret
    exact ⟨_, rfl, HF.out.drewN 0, (Chg.refl _ w).drewN 0⟩
  · have hs1 : 0 < s := by omega
    have t1 : decide (0 < s) = true := by simp; omega
    have hwr := hx.1.wr 0 m (by omega)
    rw [Nat.add_zero] at hwr
    have HL := Lib.hid fun k => lshVU xb xo xc xb xo xc m s (w.drewN k) (by omega) hm0 hs1 hs64 (hwr.drewN k) (fun i hi => hx.1.isW i (by omega)) (.inr (.inl (by omega)))
    have HF : Hid (∀ w' (c : Nat), Val w' xb xo m + c * WB ^ m = X * 2 ^ s → Chg (Rng xb xo m) w w' → NtAt w' xb xo m xc (upTo X m)) := Lib.hid fun w' c hv hc => by
      rw [← HU] at hv
      have hc0 : c = 0 := by
        rcases Nat.eq_zero_or_pos c with h | h
        · exact h
        · have := Nat.mul_le_mul_right (WB ^ m) h
          omega
      rw [hc0, Nat.zero_mul, Nat.add_zero] at hv
      refine ⟨hx.1.chg hc, hv, .inr (Val_topne hm0 (fun i hi => hc.isW _ _ (hx.1.isW i (by omega))) ?_)⟩
      rw [hv]
      refine Nat.le_trans ?_ U2
      rw [WB_two]
      exact Nat.pow_le_pow_right (by decide) (by omega)
    have hV := hx.2.1
    have HV := Lib.hid hV
    clear hx ht ht0 hs hsB hs0 U1 U2 HU hw hX0 hB hb1 hb2 htw hwr hV
    go_enter Tryz.func187, Tryz.ntmps187
    go_wp2_with fail
    refine HN.out.mono ?_
    rintro r w1 ⟨rfl, rfl⟩
    go_wp2_with fail
    refine (HL.out 0).mono ?_
    rintro r w1 ⟨c, rfl, hc1, hc2, hc3⟩
    have H2 := Lib.hid hc2
    have H3 := Lib.hid hc3.ofDrewN
    clear hc2 hc3
    go_wp2_with fail
    go_ret
    refine ⟨_, rfl, HF.out _ c ?_ H3.out, H3.out⟩
    rw [H2.out, ← HV.out]
    rfl
theorem NtAt.chg {S : Nat → Nat → Prop} {w w' : World} {b o n c X : Nat} (h : NtAt w b o n c X) (hc : Chg S w w') (hS : ∀ i, i < n → ¬ S b (o + i)) : NtAt w' b o n c X := by
  have hw : ∀ i, i < n → wd w' b (o + i) = wd w b (o + i) := fun i hi => wd_congr (hc.cell _ _ h.1.lt (hS i hi))
  refine ⟨h.1.chg hc, (Val_congr hw).trans h.2.1, ?_⟩
  rcases h.2.2 with h0 | h0
  · exact .inl h0
  · rcases Nat.eq_zero_or_pos n with e | e
    · exact .inl e
    · exact .inr (by rw [hw _ (by omega)]; exact h0)
set_option maxRecDepth 100000 in
set_option maxHeartbeats 1000000 in
theorem float_setExp_exact (b P M : Nat) (a : Int) (f : Nat) (n : Bool) (e0 : Int) (xb xo m xc X : Nat) (E : Int) (w : World) (hf : Fl w b P M a f n (.slice (some ⟨xb, xo, none⟩) m xc) e0) (hx : NtAt w xb xo m xc X)
    (hm0 : 0 < m) (hm : m ≤ 1000) (hP1 : 64 * (m - 1) < P) (hP2 : P < 65536) (hd : P < 64 * m → X % 2 ^ (64 * m - P) = 0) (hne : xb ≠ b) (hM : M < 6) (hE1 : -100000 ≤ E) (hE2 : E ≤ 100000) :
    Calls Tryz.prog 188 #[.pointer (some ⟨b, 0, none⟩), .int .i64 E, .int .u64 0] w fun r w' => r = .returned (.tuple #[]) ∧ Fl w' b P M 0 1 n (.slice (some ⟨xb, xo, none⟩) m xc) E ∧ NtAt w' xb xo m xc X ∧ Chg (FS b xb xo m) w w' := by
  have h1 := hf.set3 1 (by omega)
  have h2 := hf.put3 (Chg.refl (FS b xb xo m) w) 1 (by omega) (fun _ => .inl rfl)
  have h3 := h1.set6 E
  have h4 := h1.put6 h2 E (fun _ => .inl rfl)
  have C1 := Lib.hid h4
  have x1 := hx.chg (hf.put3 (Chg.refl (Blk b) w) 1 (by omega) (fun _ => rfl)) (fun i hi => hne)
  have x2 := x1.chg (h1.put6 (Chg.refl (Blk b) _) E (fun _ => rfl)) (fun i hi => hne)
  have HR := Lib.hid (float_round_exact b P M a n E xb xo m xc X _ h3 x2 hm0 hm hP1 hP2 hd hne hM)
  have t1 : decide (E < -2147483648) = false := decide_eq_false (by omega)
  have t2 : decide (2147483647 < E) = false := decide_eq_false (by omega)
  have e1 : IntKind.i32.wrap E = E := by rw [IntKind.wrap_i32]; omega
  obtain ⟨c0, c1, c2, c3, c4, c5, c6, -, hp, -, -, -⟩ := hf
  have f3 := hp.free 3
  have f6 := hp.free 6
  clear h1 h2 h3 h4 x1 x2 hp hx hd hP1 hP2
  go_enter Tryz.func188, Tryz.ntmps188
  go_wp2_with fail
  refine HR.out.mono ?_
  rintro r w1 ⟨rfl, q1, q2, q3⟩
  have Q1 := Lib.hid q1
  have Q2 := Lib.hid q2
  have Q3 := Lib.hid (C1.out.then q3 (fun x o _ h => h))
  clear q1 q2 q3
  go_wp2_with fail
  go_end0
  exact ⟨rfl, Q1.out, Q2.out, Q3.out⟩
set_option maxHeartbeats 1000000 in
theorem int_BitLen (b : Nat) (n : Bool) (v : Value) (X : Nat) (w : World) (hi : In w b n v) (hv : Nt w v X) (hX : Small X) :
    Calls Tryz.prog 186 #[.pointer (some ⟨b, 0, none⟩)] w fun e w' => e = .returned (.int .i64 (blen X)) ∧ Drew w w' := by
  obtain ⟨va, vn, vc, rfl⟩ := hv.sl
  have H := Lib.hid (nat_bitLen _ X w hv hX)
  obtain ⟨c0, c1, -, -⟩ := hi
  clear hv hX
  go_enter Tryz.func186, Tryz.ntmps186
  go_wp2_with fail
  refine H.out.mono ?_
  rintro e w1 ⟨rfl, hd⟩
  have HD := Lib.hid hd
  clear hd
  go_wp2_with fail
  go_ret
  exact ⟨rfl, HD.out⟩
/-- A finite Float: X times 2 to E. -/
structure FlX (w : World) (base b P M : Nat) (n : Bool) (X : Nat) (E : Int) (xb xo m xc : Nat) : Prop where
  fl : Fl w b P M 0 1 n (.slice (some ⟨xb, xo, none⟩) m xc) (blen X + E)
  nt : NtAt w xb xo m xc (upTo X m)
  m0 : 0 < m
  lo : 64 * (m - 1) < blen X
  hi : blen X ≤ 64 * m
  ne : xb ≠ b
  own : base ≤ xb
theorem upTo_mod {X m P : Nat} (hP : blen X ≤ P) (h : blen X ≤ 64 * m) (hlt : P < 64 * m) : upTo X m % 2 ^ (64 * m - P) = 0 := by
  unfold upTo
  exact Nat.mod_eq_zero_of_dvd (Nat.dvd_trans (Nat.pow_dvd_pow 2 (by omega)) (Nat.dvd_mul_left _ _))
set_option maxRecDepth 100000 in
set_option maxHeartbeats 1500000 in
theorem float_SetInt (b P M : Nat) (a : Int) (f : Nat) (n0 : Bool) (e0 : Int) (ib : Nat) (v : Value) (X : Nat) (w : World) (hf : Fl w b P M a f n0 (.slice none 0 0) e0) (hi : In w ib false v) (hv : Nt w v X) (hX : X < 2 ^ P) (hX0 : X ≠ 0) (hP1 : 0 < P) (hP2 : P < 60000)
    (hM : M < 6) (hvb : ∀ x p, Fp v x p → x ≠ b) (hib : ib ≠ b) (hs : 17 ≤ w.heap.size) :
    Calls Tryz.prog 123 #[.pointer (some ⟨b, 0, none⟩), .pointer (some ⟨ib, 0, none⟩)] w fun r w' => r = .returned (.pointer (some ⟨b, 0, none⟩)) ∧ ∃ xb xo m xc, FlX w' w.heap.size b P M false X 0 xb xo m xc ∧ Chg (Blk b) w w' := by
  have hSm : Small X := by
    unfold Small
    refine Nat.lt_of_lt_of_le hX ?_
    obtain ⟨T, hT⟩ : ∃ T : Nat, T = 1000 := ⟨_, rfl⟩
    rw [← hT]
    have h := WB_two T
    rw [h]; exact Nat.pow_le_pow_right (by decide) (by omega)
  obtain ⟨va, vn, vc, rfl⟩ := hv.sl
  have H1 := Lib.hid (int_BitLen ib false _ X w hi hv hSm)
  obtain ⟨q1, q2, q3⟩ := blen_spec hX0
  have hB : blen X ≤ P := by
    rcases Nat.lt_or_ge P (blen X) with h | h
    · have := Nat.pow_le_pow_right (n := 2) (by decide) (show P ≤ blen X - 1 by omega); omega
    · exact h
  have hvn : vn ≠ 0 := by
    intro e; subst e
    rcases hv with ⟨_, h⟩ | ⟨_, _, _, _, h, hn, h2, _⟩
    · exact hX0 h
    · cases h; exact hX0 h2.symm
  have e1 : IntKind.u32.wrap (blen X : Int) = (blen X : Int) := by rw [IntKind.wrap_u32]; omega
  have t1 : ((P : Int) == 0) = false := by simp; omega
  have t2 : ((vn : Int) == 0) = false := by simp; omega
  obtain ⟨B, hBB⟩ : ∃ B, B = blen X := ⟨_, rfl⟩
  rw [← hBB] at H1 e1
  have hBb : B ≤ 60000 := by omega
  have e2 : IntKind.i64.wrap (B : Int) = (B : Int) := IntWalk.i64_in _ (by omega)
  obtain ⟨d0, d1, -, -⟩ := hi
  have fc := hf
  obtain ⟨c0, c1, c2, c3, c4, c5, c6, -, hp, -, -, -⟩ := fc
  have f2 := hp.free 2
  have f4 := hp.free 4
  have f5 := hp.free 5
  have hib' : ¬ ib = b := hib
  have HF := Lib.hid hf
  have HV := Lib.hid hv
  have HS := Lib.hid hSm
  have HBB := Lib.hid hBB
  clear hp hf hv hBB q1 q2 q3 hSm hX
  go_enter Tryz.func123, Tryz.ntmps123
  go_wp2_with fail
  refine H1.out.mono ?_
  rintro r w1 ⟨rfl, hd⟩
  obtain ⟨k, rfl⟩ := hd
  have hf := HF.out.drewN k
  have h1 := hf.set2 0
  have h2 := hf.put2 ((Chg.refl (Blk b) w).drewN k) 0 (fun _ => rfl)
  have h3 := h1.set4 false
  have h4 := h1.put4 h2 false (fun _ => rfl)
  have F3 := Lib.hid h3
  have C4 := Lib.hid h4
  have H2 := Lib.hid (nat_set_d (.slice none 0 0) (.slice va vn vc) X _ (.inl rfl) (HV.out.chg h4 (fun x p f => hvb x p f)) HS.out (Nat.le_trans hs h4.size))
  clear hf h1 h2 h3 h4
  go_wp2_with fail
  go_region_with (go_at_call 156; refine (H2.out _).mono ?_; rintro e w3 ⟨r, rfl, hr⟩; obtain ⟨ra, rn, rc, rfl⟩ := hr.nt.sl; have F5 := F3.out.chg hr.chg (fun _ f => f); have c5' := F5.c5; have f5' := F5.plain.free 5; have HR := Lib.hid hr; have HF5 := Lib.hid F5; clear hr F5)
  all_goals
    obtain ⟨xb, xo, rfl, hN, hm0⟩ : ∃ xb xo, ra = some ⟨xb, xo, none⟩ ∧ NtAt w3 xb xo rn rc X ∧ 0 < rn := by
      rcases HR.out.nt with ⟨_, h⟩ | ⟨xb, xo, m, xc, h, hn, h2, h3⟩
      · exact absurd h hX0
      · cases h
        refine ⟨xb, xo, rfl, ⟨hn, h2, h3⟩, ?_⟩
        rcases Nat.eq_zero_or_pos rn with e | e
        · subst e; exact absurd h2.symm hX0
        · exact e
    obtain ⟨l1, l2⟩ := blen_words hN hm0
    have hxb : w.heap.size ≤ xb := by
      rcases HR.out.fp xb xo ⟨rfl, Nat.le_refl _, by have := hN.1.le; simp; omega⟩ with f | f
      · exact f.elim
      · have := C4.out.size; omega
    have hne : xb ≠ b := by have := HF.out.lt; omega
    have K1 := Lib.hid (HF5.out.put5 (C4.out.then HR.out.chg (fun _ _ _ f => f.elim)) (.slice (some ⟨xb, xo, none⟩) rn rc) (fun _ => rfl))
    have F6 := Lib.hid (HF5.out.set5 (.slice (some ⟨xb, xo, none⟩) rn rc) ⟨_, _, _, rfl⟩)
    have N6 := hN.chg (HF5.out.put5 (Chg.refl (Blk b) w3) (.slice (some ⟨xb, xo, none⟩) rn rc) (fun _ => rfl)) (fun i hi => hne)
    have HN := Lib.hid (fnorm_pos xb xo rn rc X _ N6 hm0 (by omega))
    have fx5 := F6.out.c5
    have ub : HF5.out.plain.lt = HF5.out.plain.lt := rfl
    clear ub hN N6 c5' f5' c0 c1 c2 c3 c4 c5 c6 f2 f4 f5 d0 d1 HF5 HR H2
    go_wp2_with fail
    refine HN.out.mono ?_
    rintro r w4 ⟨s, rfl, hn4, hc4⟩
    have F7 := F6.out.chg hc4 (fun o f => hne f.1.symm)
    have K2 := Lib.hid (K1.out.then hc4 (fun x o hx f => by have := f.1; omega))
    have HE := Lib.hid (float_setExp_exact b P M _ _ _ _ xb xo rn rc _ (B : Int) w4 F7 hn4 hm0 (by omega) (by omega) (by omega) (fun h => upTo_mod hB l2 h) hne hM (by rw [HBB.out]; omega) (by rw [HBB.out]; omega))
    clear hn4 hc4 F7 fx5
    go_wp2_with fail
    refine HE.out.mono ?_
    rintro r w5 ⟨rfl, f5, n5, k5⟩
    have F8 := Lib.hid f5
    have N8 := Lib.hid n5
    have K8 := Lib.hid (K2.out.then k5 (fun x o hx f => by
      rcases f with f | f
      · exact f
      · have := f.1; omega))
    clear f5 n5 k5
    go_wp2_with fail
    go_ret
    exact ⟨rfl, xb, xo, rn, rc, ⟨by rw [← HBB.out, Int.add_zero]; exact F8.out, N8.out, hm0, l1, l2, hne, hxb⟩, K8.out⟩
theorem equalIn_fptr (d : Nat) (w : World) (a b : Addr) (r : Bool) (h : (sameAddr a b).run Tryz.prog w = .ok r w) : (Op.equalIn (d + 1) 104 (.pointer (some a)) (.pointer (some b))).run Tryz.prog w = .ok r w := by
  obtain ⟨i, h1, h2, h3, h4⟩ := info_of (show (Tryz.prog.info? 176).map (fun i => (i.zero, i.size, i.bytes)) = some (some (.agg #[.int .u32 0, .int .u8 0, .int .i8 0, .int .u8 0, .bool false, .slice none 0 0, .int .i32 0]), 7, 40) by kernel_rfl)
  simp [Op.equalIn, run_underlying Tryz.underlying104, typeInfo, h1, h3, h]
theorem neq_fsame (a : Addr) (w : World) : (binOp .neq 104 (.pointer (some a)) (.pointer (some a))).run Tryz.prog w = .ok (.bool false) w := by
  have h := equalIn_fptr 9999 w a a true (run_sameAddr_same w a)
  simp only [binOp]
  simp [Op.equal, Op.maxDepth, h]
theorem neq_fother {a b : Addr} {w : World} (hne : a ≠ b) (ha : Plain w a.block) (hb : Plain w b.block) : (binOp .neq 104 (.pointer (some a)) (.pointer (some b))).run Tryz.prog w = .ok (.bool true) w := by
  have h := equalIn_fptr 9999 w a b false (sameAddr_other hne ha hb)
  simp only [binOp]
  simp [Op.equal, Op.maxDepth, h]
set_option maxRecDepth 100000 in
set_option maxHeartbeats 1000000 in
theorem float_Set_self (b P M : Nat) (a : Int) (f : Nat) (n : Bool) (v : Value) (e : Int) (w : World) (hf : Fl w b P M a f n v e) :
    Calls Tryz.prog 185 #[.pointer (some ⟨b, 0, none⟩), .pointer (some ⟨b, 0, none⟩)] w fun r w' => r = .returned (.pointer (some ⟨b, 0, none⟩)) ∧ Fl w' b P M 0 f n v e ∧ Chg (Blk b) w w' := by
  have F := Lib.hid (hf.set2 0)
  have C := Lib.hid (hf.put2 (Chg.refl (Blk b) w) 0 (fun _ => rfl))
  have hp := fun W => neq_fsame ⟨b, 0, none⟩ W
  obtain ⟨c0, c1, c2, c3, c4, c5, c6, -, hpl, -, -, -⟩ := hf
  have f2 := hpl.free 2
  clear hpl
  go_enter Tryz.func185, Tryz.ntmps185
  go_wp2_with fail
  go_ret
  exact ⟨rfl, F.out, C.out⟩
set_option maxRecDepth 100000 in
set_option maxHeartbeats 1000000 in
theorem float_Neg_self (b P M : Nat) (a : Int) (f : Nat) (n : Bool) (v : Value) (e : Int) (w : World) (hf : Fl w b P M a f n v e) :
    Calls Tryz.prog 121 #[.pointer (some ⟨b, 0, none⟩), .pointer (some ⟨b, 0, none⟩)] w fun r w' => r = .returned (.pointer (some ⟨b, 0, none⟩)) ∧ Fl w' b P M 0 f (!n) v e ∧ Chg (Blk b) w w' := by
  have H := Lib.hid (float_Set_self b P M a f n v e w hf)
  have hnot : ∀ (x : Bool) (w : World), (Op.unary .not (.bool x)).run Tryz.prog w = .ok (.bool (!x)) w := fun _ _ => rfl
  clear hf
  go_enter Tryz.func121, Tryz.ntmps121
  go_wp2_with fail
  refine H.out.mono ?_
  rintro r w1 ⟨rfl, h1, h2⟩
  have F := Lib.hid (h1.set4 (!n))
  have C := Lib.hid (h1.put4 h2 (!n) (fun _ => rfl))
  obtain ⟨c0, c1, c2, c3, c4, c5, c6, -, hpl, -, -, -⟩ := h1
  have f4 := hpl.free 4
  clear hpl h2
  go_wp2_with fail
  go_ret
  exact ⟨rfl, F.out, C.out⟩
end Go.Proofs.YtacfhndledcmgaaGreatDoor
