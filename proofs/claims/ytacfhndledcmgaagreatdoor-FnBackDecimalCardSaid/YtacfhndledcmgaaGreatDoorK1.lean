/- Lemmas for the law FnBackDecimal: words of memory, loops over words. Conditions: those in each theorem; none besides. -/
import Derived.Test.YtacfhndledcmgaaGreatDoorProg
import Derived.WalkKit
import Derived.WalkSpells
import Derived.WalkLawsBesides
import Derived.BigQuiet
import Derived.BigRegion
import Derived.Deep.QuietTactic
import Derived.Deep.LoopGhost
import Derived.Deep.RegionWith
import Derived.Lib.Hide
import Derived.Test.YtacfhndledcmgaaGreatDoorShelf
import Derived.Shelf.Spec.BitsCarry
set_option linter.unusedVariables false
set_option linter.unusedSimpArgs false
namespace Go.Proofs.YtacfhndledcmgaaGreatDoor
open Go.RowKit
/-- 2^64, behind a name. -/
def WB : Nat := 18446744073709551616
theorem WB_eq : WB = 2 ^ 64 := rfl
theorem WB_pos : 0 < WB := by decide
/-- The cell is a number of an unsigned kind. -/
def IsI (k : IntKind) (m : Nat) (w : World) (b o : Nat) : Prop := ∃ n : Nat, n < m ∧ w.cell? ⟨b, o, none⟩ = some (.int k n)
def IsW (w : World) (b o : Nat) : Prop := IsI .u64 WB w b o
def IsB (w : World) (b o : Nat) : Prop := IsI .u8 256 w b o
/-- What a cell holds as a number. -/
def wd (w : World) (b o : Nat) : Nat := match w.cell? ⟨b, o, none⟩ with | some (.int _ n) => n.toNat | _ => 0
theorem wd_of {w : World} {b o : Nat} {k : IntKind} {n : Nat} (h : w.cell? ⟨b, o, none⟩ = some (.int k n)) : wd w b o = n := by
  unfold wd; rw [h]; simp
theorem IsI.cell {k : IntKind} {m : Nat} {w : World} {b o : Nat} (h : IsI k m w b o) : w.cell? ⟨b, o, none⟩ = some (.int k (wd w b o : Nat)) := by
  obtain ⟨n, _, h⟩ := h; rw [wd_of h]; exact h
theorem IsI.lt {k : IntKind} {m : Nat} {w : World} {b o : Nat} (h : IsI k m w b o) : wd w b o < m := by
  obtain ⟨n, hn, h⟩ := h; rw [wd_of h]; exact hn
theorem IsW.cell {w : World} {b o : Nat} (h : IsW w b o) : w.cell? ⟨b, o, none⟩ = some (.int .u64 (wd w b o : Nat)) := IsI.cell h
theorem IsW.lt {w : World} {b o : Nat} (h : IsW w b o) : wd w b o < WB := IsI.lt h
theorem IsB.cell {w : World} {b o : Nat} (h : IsB w b o) : w.cell? ⟨b, o, none⟩ = some (.int .u8 (wd w b o : Nat)) := IsI.cell h
theorem IsI.block {k : IntKind} {m : Nat} {w : World} {b o : Nat} (h : IsI k m w b o) : b < w.heap.size := by
  obtain ⟨n, _, h⟩ := h; exact World.block_lt_of_cell? _ _ h
theorem wd_congr {w w' : World} {b o : Nat} (h : w'.cell? ⟨b, o, none⟩ = w.cell? ⟨b, o, none⟩) : wd w' b o = wd w b o := by unfold wd; rw [h]
theorem IsI.congr {k : IntKind} {m : Nat} {w w' : World} {b o : Nat} (h : w'.cell? ⟨b, o, none⟩ = w.cell? ⟨b, o, none⟩) (hi : IsI k m w b o) : IsI k m w' b o := by
  obtain ⟨n, hn, hc⟩ := hi; exact ⟨n, hn, h.trans hc⟩
/-- A block of cells none of which is frozen. -/
def Plain (w : World) (b : Nat) : Prop := ∃ c t, w.heap[b]? = some (.cells c t (0, 0))
theorem Plain.free {w : World} {b : Nat} (h : Plain w b) (o : Nat) : w.frozen? ⟨b, o, none⟩ = false := by
  obtain ⟨c, t, h⟩ := h
  simp [World.frozen?, h]
theorem Plain.lt {w : World} {b : Nat} (h : Plain w b) : b < w.heap.size := by
  obtain ⟨c, t, h⟩ := h
  rcases Nat.lt_or_ge b w.heap.size with h' | h'
  · exact h'
  · simp [Array.getElem?_eq_none h'] at h
theorem Plain.alloc {w : World} {b : Nat} (h : Plain w b) (o : Obj) : Plain (w.alloc o) b := by
  obtain ⟨c, t, hh⟩ := h
  exact ⟨c, t, by rw [Below.heap_alloc _ _ _ (Plain.lt ⟨c, t, hh⟩)]; exact hh⟩
theorem Plain.new (w : World) (c : Array Value) (t : TypeId) : Plain (w.alloc (.cells c t)) w.heap.size := ⟨c, t, by show (w.heap.push _)[w.heap.size]? = _; simp⟩
theorem Plain.setCell {w : World} {b : Nat} (h : Plain w b) (a : Addr) (v : Value) : Plain (w.setCell a v) b := by
  obtain ⟨c, t, hh⟩ := h
  by_cases e : a.block = b
  · refine ⟨if a.spot.isSome then c else c.setIfInBounds a.off v, t, ?_⟩
    simp [World.setCell, Array.getElem?_modify, e, hh]
  · exact ⟨c, t, by rw [Below.heap_setCell _ _ _ _ (fun e' => e e'.symm)]; exact hh⟩
/-- What a call has done to memory: of the old cells only those of S may have changed; words stay words, bytes stay bytes; nothing old has been frozen or resized. -/
structure Chg (S : Nat → Nat → Prop) (w w' : World) : Prop where
  os : w'.os = w.os
  tape : w'.tape = w.tape
  output : w'.output = w.output
  size : w.heap.size ≤ w'.heap.size
  cell : ∀ b o, b < w.heap.size → ¬ S b o → w'.cell? ⟨b, o, none⟩ = w.cell? ⟨b, o, none⟩
  frozen : ∀ a : Addr, a.block < w.heap.size → w'.frozen? a = w.frozen? a
  block : ∀ b, b < w.heap.size → (∀ o, ¬ S b o) → w'.heap[b]? = w.heap[b]?
  shape : ∀ b, b < w.heap.size → w'.shape? b = w.shape? b
  isW : ∀ b o, IsW w b o → IsW w' b o
  isB : ∀ b o, IsB w b o → IsB w' b o
  plain : ∀ b, Plain w b → Plain w' b
theorem Chg.refl (S : Nat → Nat → Prop) (w : World) : Chg S w w :=
  ⟨rfl, rfl, rfl, Nat.le_refl _, fun _ _ _ _ => rfl, fun _ _ => rfl, fun _ _ _ => rfl, fun _ _ => rfl, fun _ _ h => h, fun _ _ h => h, fun _ h => h⟩
theorem Chg.trans {S T : Nat → Nat → Prop} {a b c : World} (h : Chg S a b) (k : Chg T b c) : Chg (fun x o => S x o ∨ T x o) a c where
  os := k.os.trans h.os
  tape := k.tape.trans h.tape
  output := k.output.trans h.output
  size := Nat.le_trans h.size k.size
  cell := fun x o hx hn => (k.cell x o (Nat.lt_of_lt_of_le hx h.size) fun t => hn (.inr t)).trans (h.cell x o hx fun s => hn (.inl s))
  frozen := fun x hx => (k.frozen x (Nat.lt_of_lt_of_le hx h.size)).trans (h.frozen x hx)
  block := fun x hx hn => (k.block x (Nat.lt_of_lt_of_le hx h.size) fun o t => hn o (.inr t)).trans (h.block x hx fun o s => hn o (.inl s))
  shape := fun x hx => (k.shape x (Nat.lt_of_lt_of_le hx h.size)).trans (h.shape x hx)
  isW := fun x o hx => k.isW x o (h.isW x o hx)
  isB := fun x o hx => k.isB x o (h.isB x o hx)
  plain := fun x hx => k.plain x (h.plain x hx)
theorem Chg.mono {S T : Nat → Nat → Prop} {w w' : World} (h : Chg S w w') (hST : ∀ b o, b < w.heap.size → S b o → T b o) : Chg T w w' where
  os := h.os
  tape := h.tape
  output := h.output
  size := h.size
  cell := fun b o hb hn => h.cell b o hb fun s => hn (hST b o hb s)
  frozen := h.frozen
  block := fun b hb hn => h.block b hb fun o s => hn o (hST b o hb s)
  shape := h.shape
  isW := h.isW
  isB := h.isB
  plain := h.plain
/-- Two steps under one footprint. -/
theorem Chg.then {S T : Nat → Nat → Prop} {a b c : World} (h : Chg S a b) (k : Chg T b c) (hT : ∀ x o, x < a.heap.size → T x o → S x o) : Chg S a c :=
  (h.trans k).mono fun x o hx s => s.elim id (hT x o hx)
theorem Chg.drewN {S : Nat → Nat → Prop} {a b : World} (h : Chg S a b) (n : Nat) : Chg S a (b.drewN n) :=
  ⟨h.os, h.tape, h.output, h.size, h.cell, h.frozen, h.block, h.shape, h.isW, h.isB, h.plain⟩
theorem Chg.drew {S : Nat → Nat → Prop} {a b : World} (h : Chg S a b) : Chg S a b.drew :=
  ⟨h.os, h.tape, h.output, h.size, h.cell, h.frozen, h.block, h.shape, h.isW, h.isB, h.plain⟩
theorem shape_alloc_old (w : World) (o : Obj) (b : Nat) (h : b < w.heap.size) : (w.alloc o).shape? b = w.shape? b := by
  unfold World.shape?; rw [Below.heap_alloc w o b h]
theorem Chg.alloc {S : Nat → Nat → Prop} {a b : World} (h : Chg S a b) (o : Obj) : Chg S a (b.alloc o) := by
  refine h.then (T := fun _ _ => False) ⟨rfl, rfl, rfl, by simp, fun x p hx _ => World.cell?_alloc_lt _ _ _ hx, fun x hx => World.frozen?_alloc_old _ _ _ (Nat.ne_of_lt hx), fun x hx _ => Below.heap_alloc _ _ _ hx, fun x hx => shape_alloc_old _ _ _ hx, fun x p hx => hx.congr (World.cell?_alloc_lt _ _ _ hx.block), fun x p hx => hx.congr (World.cell?_alloc_lt _ _ _ hx.block), fun x hx => hx.alloc _⟩ (fun _ _ _ f => f.elim)
theorem shape_setCell (w : World) (a : Addr) (v : Value) (b : Nat) : (w.setCell a v).shape? b = w.shape? b := by
  simp only [World.setCell, World.shape?, Array.getElem?_modify]
  by_cases hb : a.block = b
  · simp only [hb, if_true]
    cases hh : w.heap[b]? with
    | none => simp
    | some x =>
      cases x <;> simp
      split <;> simp
  · simp [hb]
theorem cell_setCell_ne (w : World) (b o b' o' : Nat) (v : Value) (h : b' ≠ b ∨ o' ≠ o) : (w.setCell ⟨b, o, none⟩ v).cell? ⟨b', o', none⟩ = w.cell? ⟨b', o', none⟩ :=
  World.cell?_setCell_other _ _ _ _ (by intro e; simp at e; omega)
theorem IsI.setW {k : IntKind} {m : Nat} {w : World} {b o : Nat} (hw : IsI k m w b o) {n : Nat} (hn : n < m) (x p : Nat) (h : IsI k m w x p) : IsI k m (w.setCell ⟨b, o, none⟩ (.int k n)) x p := by
  by_cases e : x = b ∧ p = o
  · obtain ⟨rfl, rfl⟩ := e
    exact ⟨n, hn, World.cell?_setCell_same _ _ _ hw.cell⟩
  · exact h.congr (cell_setCell_ne _ _ _ _ _ _ (by omega))
theorem IsI.setOther {k k' : IntKind} {m m' : Nat} {w : World} {b o : Nat} (hw : IsI k m w b o) (v : Value) (hk : k' ≠ k) (x p : Nat) (h : IsI k' m' w x p) : IsI k' m' (w.setCell ⟨b, o, none⟩ v) x p := by
  refine h.congr (cell_setCell_ne _ _ _ _ _ _ ?_)
  rcases Nat.decEq x b with e | e
  · exact .inl e
  · rcases Nat.decEq p o with e' | e'
    · exact .inr e'
    · subst e; subst e'
      obtain ⟨n, _, h1⟩ := hw; obtain ⟨n', _, h2⟩ := h
      rw [h1] at h2; simp at h2; exact absurd h2.1.symm hk
/-- A word is stored. -/
theorem Chg.setW {S : Nat → Nat → Prop} {a w : World} (h : Chg S a w) {b o n : Nat} (hw : IsW w b o) (hn : n < WB) (hS : b < a.heap.size → S b o) : Chg S a (w.setCell ⟨b, o, none⟩ (.int .u64 n)) := by
  refine h.then (T := fun x p => x = b ∧ p = o) ⟨rfl, rfl, rfl, by simp, fun x p _ hne => cell_setCell_ne _ _ _ _ _ _ (by omega), fun x hx => by simp, fun x hx hne => Below.heap_setCell _ _ _ _ (fun e => hne o ⟨e, rfl⟩), fun x hx => shape_setCell _ _ _ _, fun x p hx => IsI.setW hw hn x p hx, fun x p hx => IsI.setOther hw _ (by decide) x p hx, fun x hx => hx.setCell _ _⟩ ?_
  rintro x p hx ⟨rfl, rfl⟩; exact hS hx
theorem Chg.setB {S : Nat → Nat → Prop} {a w : World} (h : Chg S a w) {b o n : Nat} (hw : IsB w b o) (hn : n < 256) (hS : b < a.heap.size → S b o) : Chg S a (w.setCell ⟨b, o, none⟩ (.int .u8 n)) := by
  refine h.then (T := fun x p => x = b ∧ p = o) ⟨rfl, rfl, rfl, by simp, fun x p _ hne => cell_setCell_ne _ _ _ _ _ _ (by omega), fun x hx => by simp, fun x hx hne => Below.heap_setCell _ _ _ _ (fun e => hne o ⟨e, rfl⟩), fun x hx => shape_setCell _ _ _ _, fun x p hx => IsI.setOther hw _ (by decide) x p hx, fun x p hx => IsI.setW hw hn x p hx, fun x hx => hx.setCell _ _⟩ ?_
  rintro x p hx ⟨rfl, rfl⟩; exact hS hx
theorem wd_setCell_same {w : World} {b o n : Nat} {k : IntKind} {u : Value} (h : w.cell? ⟨b, o, none⟩ = some u) : wd (w.setCell ⟨b, o, none⟩ (.int k n)) b o = n :=
  wd_of (World.cell?_setCell_same _ _ _ h)
theorem wd_setCell_ne {w : World} {b o b' o' : Nat} {v : Value} (h : b' ≠ b ∨ o' ≠ o) : wd (w.setCell ⟨b, o, none⟩ v) b' o' = wd w b' o' := wd_congr (cell_setCell_ne _ _ _ _ _ _ h)
/-- The number of words f 0 .. f (n - 1), the lowest first. -/
def V (f : Nat → Nat) : Nat → Nat
  | 0 => 0
  | n + 1 => V f n + f n * WB ^ n
theorem V_congr {f g : Nat → Nat} : ∀ n, (∀ i, i < n → f i = g i) → V f n = V g n
  | 0, _ => rfl
  | n + 1, h => by simp only [V]; rw [V_congr n fun i hi => h i (by omega), h n (by omega)]
theorem V_lt {f : Nat → Nat} : ∀ n, (∀ i, i < n → f i < WB) → V f n < WB ^ n
  | 0, _ => by simp [V]
  | n + 1, h => by
    have := V_lt n fun i hi => h i (by omega)
    have h1 := h n (by omega)
    simp only [V, Nat.pow_succ]
    have : (f n + 1) * WB ^ n ≤ WB * WB ^ n := Nat.mul_le_mul_right _ h1
    rw [Nat.mul_comm (WB ^ n)]
    rw [Nat.add_mul] at this
    omega
/-- The first i words, and the rest. -/
theorem V_split (f : Nat → Nat) (i : Nat) : ∀ n, V f (i + n) = V f i + WB ^ i * V (fun j => f (i + j)) n
  | 0 => by simp [V]
  | n + 1 => by
    rw [← Nat.add_assoc]; simp only [V]; rw [V_split f i n, Nat.pow_add]; grind
/-- The number that n cells hold. -/
def Val (w : World) (b o n : Nat) : Nat := V (fun i => wd w b (o + i)) n
def addLo (x y c : Nat) : Nat := (x + y + c) % WB
def addHi (x y c : Nat) : Nat := (x + y + c) / WB
theorem addLo_lt (x y c : Nat) : addLo x y c < WB := Nat.mod_lt _ WB_pos
theorem addHi_le {x y c : Nat} (hx : x < WB) (hy : y < WB) (hc : c ≤ 1) : addHi x y c ≤ 1 := by unfold addHi WB at *; omega
theorem add_eq (x y c : Nat) : addLo x y c + WB * addHi x y c = x + y + c := by unfold addLo addHi; exact Nat.mod_add_div _ _
def subLo (x y c : Nat) : Nat := (x + WB - y - c) % WB
def subHi (x y c : Nat) : Nat := if x < y + c then 1 else 0
theorem subLo_lt (x y c : Nat) : subLo x y c < WB := Nat.mod_lt _ WB_pos
theorem subHi_le (x y c : Nat) : subHi x y c ≤ 1 := by unfold subHi; split <;> omega
theorem sub_eq {x y c : Nat} (hx : x < WB) (hy : y < WB) (hc : c ≤ 1) : subLo x y c + y + c = x + WB * subHi x y c := by
  unfold subLo subHi WB at *; split <;> omega
theorem Val_succ (w : World) (b o n : Nat) : Val w b o (n + 1) = Val w b o n + wd w b (o + n) * WB ^ n := rfl
theorem Val_set {w : World} {b o k v : Nat} (h : IsW w b (o + k)) : Val (w.setCell ⟨b, o + k, none⟩ (.int .u64 v)) b o (k + 1) = Val w b o k + v * WB ^ k := by
  rw [Val_succ, wd_setCell_same h.cell]
  congr 1
  exact V_congr _ fun i hi => wd_setCell_ne (.inr (by omega))
theorem alg_add {B P lo hi c x y A X Y : Nat} (h0 : A + c * P = X + Y) (h1 : lo + B * hi = x + y + c) : A + lo * P + hi * (P * B) = X + x * P + (Y + y * P) := by
  have : (lo + B * hi) * P = (x + y + c) * P := by rw [h1]
  grind
theorem step_add {p x y lo hi c A X Y : Nat} (h0 : A + c * WB ^ p = X + Y) (h1 : lo + WB * hi = x + y + c) : A + lo * WB ^ p + hi * WB ^ (p + 1) = X + x * WB ^ p + (Y + y * WB ^ p) := by
  rw [Nat.pow_succ]; exact alg_add h0 h1
theorem alg_sub {B P lo hi c x y A X Y : Nat} (h0 : A + Y = X + c * P) (h1 : lo + y + c = x + B * hi) : A + lo * P + (Y + y * P) = X + x * P + hi * (P * B) := by
  have : (lo + y + c) * P = (x + B * hi) * P := by rw [h1]
  grind
theorem step_sub {p x y lo hi c A X Y : Nat} (h0 : A + Y = X + c * WB ^ p) (h1 : lo + y + c = x + WB * hi) : A + lo * WB ^ p + (Y + y * WB ^ p) = X + x * WB ^ p + hi * WB ^ (p + 1) := by
  rw [Nat.pow_succ]; exact alg_sub h0 h1
theorem alg_ma {B P lo hi c x y r A X : Nat} (h0 : A + c * P = X * y + r) (h1 : lo + B * hi = x * y + c) : A + lo * P + hi * (P * B) = (X + x * P) * y + r := by
  have : (lo + B * hi) * P = (x * y + c) * P := by rw [h1]
  grind
theorem call_add64 (x y c : Nat) (hx : x < WB) (hy : y < WB) (hc : c ≤ 1) (w : World) :
    (callFunc 282 #[.int .u64 x, .int .u64 y, .int .u64 c]).run Tryz.prog w =
      .ok (.value (.tuple #[.int .u64 (addLo x y c : Nat), .int .u64 (addHi x y c : Nat)])) w := by
  unfold WB at hx hy
  rw [run_callFunc_extern Tryz.func282 (by kernel_rfl) (by kernel_rfl) (by kernel_rfl) (e := add64Entry) (by kernel_rfl), run_add64 x y c (by omega) (by omega) (by omega) (by omega)]
  simp only [Result.andThen, addLo, addHi, WB]
  congr 5 <;> omega
theorem call_sub64 (x y c : Nat) (hc : c ≤ 1) (w : World) :
    (callFunc 284 #[.int .u64 x, .int .u64 y, .int .u64 c]).run Tryz.prog w =
      .ok (.value (.tuple #[.int .u64 (subLo x y c : Nat), .int .u64 (subHi x y c : Nat)])) w := by
  rw [run_callFunc_extern Tryz.func284 (by kernel_rfl) (by kernel_rfl) (by kernel_rfl) (e := sub64Entry) (by kernel_rfl), run_sub64 x y c hc]
  rfl
set_option maxHeartbeats 400000 in
theorem bits_Add (x y c : Nat) (hx : x < WB) (hy : y < WB) (hc : c ≤ 1) (w : World) :
    Calls Tryz.prog 243 #[.int .u64 x, .int .u64 y, .int .u64 c] w fun e w' => e = .returned (.tuple #[.int .u64 (addLo x y c : Nat), .int .u64 (addHi x y c : Nat)]) ∧ w' = w.drewN 0 := by
  have hcall := fun w => call_add64 x y c hx hy hc w
  go_enter Tryz.func243, Tryz.ntmps243
  go_wp2
  go_ret2
  exact ⟨rfl, rfl⟩
set_option maxHeartbeats 400000 in
theorem bits_Sub (x y c : Nat) (hc : c ≤ 1) (w : World) :
    Calls Tryz.prog 245 #[.int .u64 x, .int .u64 y, .int .u64 c] w fun e w' => e = .returned (.tuple #[.int .u64 (subLo x y c : Nat), .int .u64 (subHi x y c : Nat)]) ∧ w' = w.drewN 0 := by
  have hcall := fun w => call_sub64 x y c hc w
  go_enter Tryz.func245, Tryz.ntmps245
  go_wp2
  go_ret2
  exact ⟨rfl, rfl⟩
def mulHi (x y : Nat) : Nat := x * y / WB
def mulLo (x y : Nat) : Nat := x * y % WB
theorem mul_eq (x y : Nat) : mulLo x y + WB * mulHi x y = x * y := Nat.mod_add_div _ _
theorem mulLo_lt (x y : Nat) : mulLo x y < WB := Nat.mod_lt _ WB_pos
theorem mulHi_lt {x y : Nat} (hx : x < WB) (hy : y < WB) : mulHi x y + 1 < WB := by
  have h1 := mul_eq x y
  have h2 : x * y ≤ (WB - 1) * (WB - 1) := Nat.mul_le_mul (by omega) (by omega)
  have h3 : WB * mulHi x y ≤ (WB - 1) * (WB - 1) := by omega
  unfold WB at *; omega
theorem bits_Mul (x y : Nat) (hx : x < WB) (hy : y < WB) (w : World) :
    Calls Tryz.prog 270 #[.int .u64 x, .int .u64 y] w fun e w' => e = .returned (.tuple #[.int .u64 (mulHi x y : Nat), .int .u64 (mulLo x y : Nat)]) ∧ w = w' :=
  (Tryz.bits_Mul x y hx hy w).mono fun _ _ ⟨he, hw⟩ => ⟨he, hw.symm⟩
set_option maxHeartbeats 400000 in
theorem mulWW (x y : Nat) (hx : x < WB) (hy : y < WB) (w : World) :
    Calls Tryz.prog 226 #[.int .u64 x, .int .u64 y] w fun e w' => e = .returned (.tuple #[.int .u64 (mulHi x y : Nat), .int .u64 (mulLo x y : Nat)]) ∧ w' = w.drewN 0 := by
  go_enter Tryz.func226, Tryz.ntmps226
  go_wp2_with (go_at_call 270; refine (bits_Mul _ _ hx hy _).mono ?_; rintro e w' ⟨rfl, rfl⟩)
  go_ret2
  exact ⟨rfl, rfl⟩
def maHi (x y c : Nat) : Nat := (x * y + c) / WB
def maLo (x y c : Nat) : Nat := (x * y + c) % WB
theorem ma_eq (x y c : Nat) : maLo x y c + WB * maHi x y c = x * y + c := Nat.mod_add_div _ _
theorem maLo_lt (x y c : Nat) : maLo x y c < WB := Nat.mod_lt _ WB_pos
theorem maHi_lt {x y c : Nat} (hx : x < WB) (hy : y < WB) (_hc : c < WB) : maHi x y c < WB := by
  have h1 := ma_eq x y c
  have h2 : x * y ≤ (WB - 1) * (WB - 1) := Nat.mul_le_mul (by omega) (by omega)
  have h3 : WB * maHi x y c ≤ (WB - 1) * (WB - 1) + (WB - 1) := by omega
  unfold WB at *; omega
theorem ma_of {x y c : Nat} (_hc : c < WB) : addLo (mulLo x y) c 0 = maLo x y c ∧ mulHi x y + addHi (mulLo x y) c 0 = maHi x y c := by
  have h1 := mul_eq x y
  have h2 := add_eq (mulLo x y) c 0
  have h3 := ma_eq x y c
  have h4 := maLo_lt x y c
  have h5 := addLo_lt (mulLo x y) c 0
  unfold WB at *; omega
set_option maxHeartbeats 400000 in
theorem mulAddWWW_g (x y c : Nat) (hx : x < WB) (hy : y < WB) (hc : c < WB) (w : World) :
    Calls Tryz.prog 294 #[.int .u64 x, .int .u64 y, .int .u64 c] w fun e w' => e = .returned (.tuple #[.int .u64 (maHi x y c : Nat), .int .u64 (maLo x y c : Nat)]) ∧ w' = w.drewN 0 := by
  have hb : mulHi x y + addHi (mulLo x y) c 0 < 18446744073709551616 := by rw [(ma_of hc).2]; exact maHi_lt hx hy hc
  have hm := mulLo_lt x y
  have H1 := Lib.hid (@ma_of x y c hc)
  go_enter Tryz.func294, Tryz.ntmps294
  go_wp2_with (first | (go_at_call 270; refine (bits_Mul _ _ hx hy _).mono ?_; rintro e w' ⟨rfl, rfl⟩) | (go_at_call 243; refine (bits_Add _ _ 0 hm hc (by omega) _).mono ?_; rintro e w' ⟨rfl, rfl⟩))
  go_ret2
  refine ⟨?_, rfl⟩
  rw [← H1.out.1, ← H1.out.2]
  rfl
set_option maxHeartbeats 400000 in
theorem nlz (x : Nat) (hx : x < WB) (w : World) :
    Calls Tryz.prog 163 #[.int .u64 x] w fun e w' => e = .returned (.int .u64 (64 - Lib.bitLen x : Nat)) ∧ w' = w.drewN 0 := by
  have hl : Lib.bitLen x ≤ 64 := Lib.bitLen_le x 64 (by omega) hx
  have hc : ((64 - Lib.bitLen x : Nat) : Int) = 64 - (Lib.bitLen x : Int) := by omega
  have H := Lib.hid hc
  clear hc
  unfold WB at hx
  go_enter Tryz.func163, Tryz.ntmps163
  go_wp2_with (go_at_call 225; refine (Tryz.bits_LeadingZeros _ _ (by omega) (by omega)).mono ?_; rintro e w' ⟨rfl, hw⟩; rw [hw])
  go_ret
  rw [H.out]
  exact ⟨rfl, rfl⟩
/-- n words from off on in block b, free to be written. -/
structure Wr (w : World) (b off n : Nat) : Prop where
  isW : ∀ i, i < n → IsW w b (off + i)
  plain : Plain w b
theorem Wr.free {w : World} {b off n : Nat} (h : Wr w b off n) (i : Nat) (_ : i < n) : w.frozen? ⟨b, off + i, none⟩ = false := h.plain.free _
def Rng (b off n : Nat) : Nat → Nat → Prop := fun x o => x = b ∧ off ≤ o ∧ o < off + n
set_option maxHeartbeats 400000 in
theorem addVV_g (zb zo zc xb xo xc yb yo yc n : Nat) (w : World) (hn : n < 4611686018427387904)
    (hz : Wr w zb zo n) (hx : ∀ i, i < n → IsW w xb (xo + i)) (hy : ∀ i, i < n → IsW w yb (yo + i))
    (hxz : xb ≠ zb ∨ xo = zo ∨ xo + n ≤ zo ∨ zo + n ≤ xo) (hyz : yb ≠ zb ∨ yo = zo ∨ yo + n ≤ zo ∨ zo + n ≤ yo) :
    Calls Tryz.prog 242 #[.slice (some ⟨zb, zo, none⟩) n zc, .slice (some ⟨xb, xo, none⟩) n xc, .slice (some ⟨yb, yo, none⟩) n yc] w fun e w' =>
      ∃ c : Nat, e = .returned (.int .u64 c) ∧ c ≤ 1 ∧ Val w' zb zo n + c * WB ^ n = Val w xb xo n + Val w yb yo n ∧ Chg (Rng zb zo n) w w' := by
  have hnn : ((n : Int) == n) = true := by simp
  go_enter Tryz.func242, Tryz.ntmps242
  go_wp2_with fail
  go_loopw [6, 25] (fun c i wr => ∃ cc k : Nat, cc ≤ 1 ∧ k ≤ n ∧ c = .int .u64 cc ∧ i = .int .i64 k ∧ Hid (Val wr zb zo k + cc * WB ^ k = Val w xb xo k + Val w yb yo k) ∧ Chg (Rng zb zo k) w wr) (fun _ i _ => n - (intOf i).toNat)
  case atStart => exact ⟨0, 0, by omega, by omega, rfl, rfl, Lib.hid (by simp [Val, V]), Chg.refl _ _⟩
  case round =>
    obtain ⟨cc, k, hcc, hk, rfl, rfl, hV, hC⟩ := hrel
    by_cases hlt : k < n
    · have hxk := hx k hlt
      have hyk := hy k hlt
      have hzk := hC.isW _ _ (hz.isW k hlt)
      have cx : wr.cell? ⟨xb, xo + k, none⟩ = some (.int .u64 (wd w xb (xo + k) : Nat)) := (hC.cell _ _ hxk.block (by unfold Rng; omega)).trans hxk.cell
      have cy : wr.cell? ⟨yb, yo + k, none⟩ = some (.int .u64 (wd w yb (yo + k) : Nat)) := (hC.cell _ _ hyk.block (by unfold Rng; omega)).trans hyk.cell
      have cz := hzk.cell
      have fz : wr.frozen? ⟨zb, zo + k, none⟩ = false := (hC.frozen _ (hz.isW k hlt).block).trans (hz.free k hlt)
      have lx := hxk.lt
      have ly := hyk.lt
      have i1 : (k : Int) < (n : Int) := by omega
      go_wp2_with fail
      go_quiet ((go_at_call 243; exact Calls.quiet_of_same (bits_Add _ _ _ lx ly hcc _)))
      go_wp2_with fail
      go_roundw
      case rel =>
        have h0 := hV.out
        have h1 := add_eq (wd w xb (xo + k)) (wd w yb (yo + k)) cc
        refine ⟨addHi (wd w xb (xo + k)) (wd w yb (yo + k)) cc, k + 1, addHi_le lx ly hcc, by omega, rfl, by go_num, Lib.hid ?_, ?_⟩
        · rw [Val_set (w := wr.drewN nq) hzk, Val_succ w xb, Val_succ w yb]
          exact step_add h0 h1
        · exact ((hC.mono (fun b o _ h => ⟨h.1, h.2.1, by have := h.2.2; omega⟩)).drewN nq).setW (w := wr.drewN nq) hzk (addLo_lt _ _ _) (fun _ => ⟨rfl, by omega, by omega⟩)
      case measure => simp [intOf]; omega
    · have hkn : k = n := by omega
      subst hkn
      go_wp2_with fail
      go_ret
      exact ⟨cc, rfl, hcc, hV.out, hC⟩
theorem addVV (zb zo zc xb xo xc yb yo yc n : Nat) (w : World) (hn : n < 4611686018427387904)
    (hz : Wr w zb zo n) (hx : ∀ i, i < n → IsW w xb (xo + i)) (hy : ∀ i, i < n → IsW w yb (yo + i))
    (hxz : xb ≠ zb ∨ xo = zo ∨ xo + n ≤ zo ∨ zo + n ≤ xo) (hyz : yb ≠ zb ∨ yo = zo ∨ yo + n ≤ zo ∨ zo + n ≤ yo) :
    Calls Tryz.prog 181 #[.slice (some ⟨zb, zo, none⟩) n zc, .slice (some ⟨xb, xo, none⟩) n xc, .slice (some ⟨yb, yo, none⟩) n yc] w fun e w' =>
      ∃ c : Nat, e = .returned (.int .u64 c) ∧ c ≤ 1 ∧ Val w' zb zo n + c * WB ^ n = Val w xb xo n + Val w yb yo n ∧ Chg (Rng zb zo n) w w' := by
  go_enter Tryz.func181, Tryz.ntmps181
  go_wp2_with fail
  refine (addVV_g zb zo zc xb xo xc yb yo yc n w hn hz hx hy hxz hyz).mono ?_
  rintro e w' ⟨c, rfl, h1, h2, h3⟩
  have H2 := Lib.hid h2
  clear h2
  go_wp2_with fail
  go_ret
  exact ⟨c, rfl, h1, H2.out, h3⟩
set_option maxHeartbeats 400000 in
theorem subVV_g (zb zo zc xb xo xc yb yo yc n : Nat) (w : World) (hn : n < 4611686018427387904)
    (hz : Wr w zb zo n) (hx : ∀ i, i < n → IsW w xb (xo + i)) (hy : ∀ i, i < n → IsW w yb (yo + i))
    (hxz : xb ≠ zb ∨ xo = zo ∨ xo + n ≤ zo ∨ zo + n ≤ xo) (hyz : yb ≠ zb ∨ yo = zo ∨ yo + n ≤ zo ∨ zo + n ≤ yo) :
    Calls Tryz.prog 244 #[.slice (some ⟨zb, zo, none⟩) n zc, .slice (some ⟨xb, xo, none⟩) n xc, .slice (some ⟨yb, yo, none⟩) n yc] w fun e w' =>
      ∃ c : Nat, e = .returned (.int .u64 c) ∧ c ≤ 1 ∧ Val w' zb zo n + Val w yb yo n = Val w xb xo n + c * WB ^ n ∧ Chg (Rng zb zo n) w w' := by
  have hnn : ((n : Int) == n) = true := by simp
  go_enter Tryz.func244, Tryz.ntmps244
  go_wp2_with fail
  go_loopw [6, 25] (fun c i wr => ∃ cc k : Nat, cc ≤ 1 ∧ k ≤ n ∧ c = .int .u64 cc ∧ i = .int .i64 k ∧ Hid (Val wr zb zo k + Val w yb yo k = Val w xb xo k + cc * WB ^ k) ∧ Chg (Rng zb zo k) w wr) (fun _ i _ => n - (intOf i).toNat)
  case atStart => exact ⟨0, 0, by omega, by omega, rfl, rfl, Lib.hid (by simp [Val, V]), Chg.refl _ _⟩
  case round =>
    obtain ⟨cc, k, hcc, hk, rfl, rfl, hV, hC⟩ := hrel
    by_cases hlt : k < n
    · have hxk := hx k hlt
      have hyk := hy k hlt
      have hzk := hC.isW _ _ (hz.isW k hlt)
      have cx : wr.cell? ⟨xb, xo + k, none⟩ = some (.int .u64 (wd w xb (xo + k) : Nat)) := (hC.cell _ _ hxk.block (by unfold Rng; omega)).trans hxk.cell
      have cy : wr.cell? ⟨yb, yo + k, none⟩ = some (.int .u64 (wd w yb (yo + k) : Nat)) := (hC.cell _ _ hyk.block (by unfold Rng; omega)).trans hyk.cell
      have cz := hzk.cell
      have fz : wr.frozen? ⟨zb, zo + k, none⟩ = false := (hC.frozen _ (hz.isW k hlt).block).trans (hz.free k hlt)
      have lx := hxk.lt
      have ly := hyk.lt
      have i1 : (k : Int) < (n : Int) := by omega
      go_wp2_with fail
      go_quiet ((go_at_call 245; exact Calls.quiet_of_same (bits_Sub _ _ _ hcc _)))
      go_wp2_with fail
      go_roundw
      case rel =>
        have h0 := hV.out
        have h1 := sub_eq lx ly hcc
        refine ⟨subHi (wd w xb (xo + k)) (wd w yb (yo + k)) cc, k + 1, subHi_le _ _ _, by omega, rfl, by go_num, Lib.hid ?_, ?_⟩
        · rw [Val_set (w := wr.drewN nq) hzk, Val_succ w xb, Val_succ w yb]
          exact step_sub h0 h1
        · exact ((hC.mono (fun b o _ h => ⟨h.1, h.2.1, by have := h.2.2; omega⟩)).drewN nq).setW (w := wr.drewN nq) hzk (subLo_lt _ _ _) (fun _ => ⟨rfl, by omega, by omega⟩)
      case measure => simp [intOf]; omega
    · have hkn : k = n := by omega
      subst hkn
      go_wp2_with fail
      go_ret
      exact ⟨cc, rfl, hcc, hV.out, hC⟩
theorem subVV (zb zo zc xb xo xc yb yo yc n : Nat) (w : World) (hn : n < 4611686018427387904)
    (hz : Wr w zb zo n) (hx : ∀ i, i < n → IsW w xb (xo + i)) (hy : ∀ i, i < n → IsW w yb (yo + i))
    (hxz : xb ≠ zb ∨ xo = zo ∨ xo + n ≤ zo ∨ zo + n ≤ xo) (hyz : yb ≠ zb ∨ yo = zo ∨ yo + n ≤ zo ∨ zo + n ≤ yo) :
    Calls Tryz.prog 183 #[.slice (some ⟨zb, zo, none⟩) n zc, .slice (some ⟨xb, xo, none⟩) n xc, .slice (some ⟨yb, yo, none⟩) n yc] w fun e w' =>
      ∃ c : Nat, e = .returned (.int .u64 c) ∧ c ≤ 1 ∧ Val w' zb zo n + Val w yb yo n = Val w xb xo n + c * WB ^ n ∧ Chg (Rng zb zo n) w w' := by
  go_enter Tryz.func183, Tryz.ntmps183
  go_wp2_with fail
  refine (subVV_g zb zo zc xb xo xc yb yo yc n w hn hz hx hy hxz hyz).mono ?_
  rintro e w' ⟨c, rfl, h1, h2, h3⟩
  have H2 := Lib.hid h2
  clear h2
  go_wp2_with fail
  go_ret
  exact ⟨c, rfl, h1, H2.out, h3⟩
set_option maxHeartbeats 400000 in
theorem mulAddVWW_g (zb zo zc xb xo xc n y r : Nat) (w : World) (hn : n < 4611686018427387904) (hy : y < WB) (hr : r < WB)
    (hz : Wr w zb zo n) (hx : ∀ i, i < n → IsW w xb (xo + i)) (hxz : xb ≠ zb ∨ xo = zo ∨ xo + n ≤ zo ∨ zo + n ≤ xo) :
    Calls Tryz.prog 259 #[.slice (some ⟨zb, zo, none⟩) n zc, .slice (some ⟨xb, xo, none⟩) n xc, .int .u64 y, .int .u64 r] w fun e w' =>
      ∃ c : Nat, e = .returned (.int .u64 c) ∧ c < WB ∧ Val w' zb zo n + c * WB ^ n = Val w xb xo n * y + r ∧ Chg (Rng zb zo n) w w' := by
  have hnn : ((n : Int) == n) = true := by simp
  go_enter Tryz.func259, Tryz.ntmps259
  go_wp2_with fail
  go_loopw [8, 19] (fun c i wr => ∃ cc k : Nat, cc < WB ∧ k ≤ n ∧ c = .int .u64 cc ∧ i = .int .i64 k ∧ Hid (Val wr zb zo k + cc * WB ^ k = Val w xb xo k * y + r) ∧ Chg (Rng zb zo k) w wr) (fun _ i _ => n - (intOf i).toNat)
  case atStart => exact ⟨r, 0, by omega, by omega, rfl, rfl, Lib.hid (by simp [Val, V]), Chg.refl _ _⟩
  case round =>
    obtain ⟨cc, k, hcc, hk, rfl, rfl, hV, hC⟩ := hrel
    by_cases hlt : k < n
    · have hxk := hx k hlt
      have hzk := hC.isW _ _ (hz.isW k hlt)
      have cx : wr.cell? ⟨xb, xo + k, none⟩ = some (.int .u64 (wd w xb (xo + k) : Nat)) := (hC.cell _ _ hxk.block (by unfold Rng; omega)).trans hxk.cell
      have cz := hzk.cell
      have fz : wr.frozen? ⟨zb, zo + k, none⟩ = false := (hC.frozen _ (hz.isW k hlt).block).trans (hz.free k hlt)
      have lx := hxk.lt
      have i1 : (k : Int) < (n : Int) := by omega
      go_wp2_with fail
      refine (mulAddWWW_g _ y _ lx hy hcc _).mono ?_
      rintro e w' ⟨rfl, rfl⟩
      go_wp2_with fail
      go_roundw
      case rel =>
        have h0 := hV.out
        have h1 := ma_eq (wd w xb (xo + k)) y cc
        refine ⟨maHi (wd w xb (xo + k)) y cc, k + 1, maHi_lt lx hy hcc, by omega, rfl, by go_num, Lib.hid ?_, ?_⟩
        · rw [Val_set (w := wr.drewN 0) hzk, Val_succ w xb, Nat.pow_succ]
          exact alg_ma h0 h1
        · exact ((hC.mono (fun b o _ h => ⟨h.1, h.2.1, by have := h.2.2; omega⟩)).drewN 0).setW (w := wr.drewN 0) hzk (maLo_lt _ _ _) (fun _ => ⟨rfl, by omega, by omega⟩)
      case measure => simp [intOf]; omega
    · have hkn : k = n := by omega
      subst hkn
      go_wp2_with fail
      go_ret
      exact ⟨cc, rfl, hcc, hV.out, hC⟩
theorem mulAddVWW (zb zo zc xb xo xc n y r : Nat) (w : World) (hn : n < 4611686018427387904) (hy : y < WB) (hr : r < WB)
    (hz : Wr w zb zo n) (hx : ∀ i, i < n → IsW w xb (xo + i)) (hxz : xb ≠ zb ∨ xo = zo ∨ xo + n ≤ zo ∨ zo + n ≤ xo) :
    Calls Tryz.prog 207 #[.slice (some ⟨zb, zo, none⟩) n zc, .slice (some ⟨xb, xo, none⟩) n xc, .int .u64 y, .int .u64 r] w fun e w' =>
      ∃ c : Nat, e = .returned (.int .u64 c) ∧ c < WB ∧ Val w' zb zo n + c * WB ^ n = Val w xb xo n * y + r ∧ Chg (Rng zb zo n) w w' := by
  go_enter Tryz.func207, Tryz.ntmps207
  go_wp2_with fail
  refine (mulAddVWW_g zb zo zc xb xo xc n y r w hn hy hr hz hx hxz).mono ?_
  rintro e w' ⟨c, rfl, h1, h2, h3⟩
  have H2 := Lib.hid h2
  clear h2
  go_wp2_with fail
  go_ret
  exact ⟨c, rfl, h1, H2.out, h3⟩
/-- x + y m + c, its high and its low word: x, c, y, m below 2^64: the high word is below 2^64. -/
theorem am_bound {x y m c lo hi l2 h2 : Nat} (hx : x < WB) (hy : y < WB) (hm : m < WB) (hc : c < WB) (h1 : lo + WB * hi = y * m + x) (h3 : l2 + WB * h2 = lo + c) : h2 + hi < WB ∧ l2 + WB * (h2 + hi) = y * m + x + c := by
  have h4 : y * m ≤ (WB - 1) * (WB - 1) := Nat.mul_le_mul (by omega) (by omega)
  have h5 : l2 + WB * (h2 + hi) = y * m + x + c := by rw [Nat.mul_add]; omega
  refine ⟨?_, h5⟩
  generalize h2 + hi = t at *
  unfold WB at *; omega
theorem alg_am {B P lo hi c x y m a A X Y : Nat} (h0 : A + c * P = X + Y * m + a) (h1 : lo + B * hi = y * m + x + c) : A + lo * P + hi * (P * B) = X + x * P + (Y + y * P) * m + a := by
  have : (lo + B * hi) * P = (y * m + x + c) * P := by rw [h1]
  grind
set_option maxHeartbeats 400000 in
theorem addMulVVWW_g (zb zo zc xb xo xc yb yo yc n m a : Nat) (w : World) (hn : n < 4611686018427387904) (hm : m < WB) (ha : a < WB)
    (hz : Wr w zb zo n) (hx : ∀ i, i < n → IsW w xb (xo + i)) (hy : ∀ i, i < n → IsW w yb (yo + i))
    (hxz : xb ≠ zb ∨ xo = zo ∨ xo + n ≤ zo ∨ zo + n ≤ xo) (hyz : yb ≠ zb ∨ yo = zo ∨ yo + n ≤ zo ∨ zo + n ≤ yo) :
    Calls Tryz.prog 271 #[.slice (some ⟨zb, zo, none⟩) n zc, .slice (some ⟨xb, xo, none⟩) n xc, .slice (some ⟨yb, yo, none⟩) n yc, .int .u64 m, .int .u64 a] w fun e w' =>
      ∃ c : Nat, e = .returned (.int .u64 c) ∧ c < WB ∧ Val w' zb zo n + c * WB ^ n = Val w xb xo n + Val w yb yo n * m + a ∧ Chg (Rng zb zo n) w w' := by
  have hnn : ((n : Int) == n) = true := by simp
  go_enter Tryz.func271, Tryz.ntmps271
  go_wp2_with fail
  go_loopw [10, 32] (fun c i wr => ∃ cc k : Nat, cc < WB ∧ k ≤ n ∧ c = .int .u64 cc ∧ i = .int .i64 k ∧ Hid (Val wr zb zo k + cc * WB ^ k = Val w xb xo k + Val w yb yo k * m + a) ∧ Chg (Rng zb zo k) w wr) (fun _ i _ => n - (intOf i).toNat)
  case atStart => exact ⟨a, 0, by omega, by omega, rfl, rfl, Lib.hid (by simp [Val, V]), Chg.refl _ _⟩
  case round =>
    obtain ⟨cc, k, hcc, hk, rfl, rfl, hV, hC⟩ := hrel
    by_cases hlt : k < n
    · have hxk := hx k hlt
      have hyk := hy k hlt
      have hzk := hC.isW _ _ (hz.isW k hlt)
      have cx : wr.cell? ⟨xb, xo + k, none⟩ = some (.int .u64 (wd w xb (xo + k) : Nat)) := (hC.cell _ _ hxk.block (by unfold Rng; omega)).trans hxk.cell
      have cy : wr.cell? ⟨yb, yo + k, none⟩ = some (.int .u64 (wd w yb (yo + k) : Nat)) := (hC.cell _ _ hyk.block (by unfold Rng; omega)).trans hyk.cell
      have cz := hzk.cell
      have fz : wr.frozen? ⟨zb, zo + k, none⟩ = false := (hC.frozen _ (hz.isW k hlt).block).trans (hz.free k hlt)
      have lx := hxk.lt
      have ly := hyk.lt
      have i1 : (k : Int) < (n : Int) := by omega
      obtain ⟨b1, b2⟩ := am_bound lx ly hm hcc (ma_eq (wd w yb (yo + k)) m (wd w xb (xo + k))) (add_eq (maLo (wd w yb (yo + k)) m (wd w xb (xo + k))) cc 0)
      have l1 := maLo_lt (wd w yb (yo + k)) m (wd w xb (xo + k))
      have B2 := Lib.hid b2
      clear b2
      have b3 : addHi (maLo (wd w yb (yo + k)) m (wd w xb (xo + k))) cc 0 + maHi (wd w yb (yo + k)) m (wd w xb (xo + k)) < 18446744073709551616 := b1
      go_wp2_with fail
      go_quiet ((go_at_call 294; exact Calls.quiet_of_same (mulAddWWW_g _ _ _ ly hm lx _)))
      go_wp2_with fail
      refine (bits_Add _ _ 0 l1 hcc (by omega) _).mono ?_
      rintro e w' ⟨rfl, rfl⟩
      go_wp2_with fail
      go_roundw
      case rel =>
        have h0 := hV.out
        have h1 := B2.out
        refine ⟨addHi (maLo (wd w yb (yo + k)) m (wd w xb (xo + k))) cc 0 + maHi (wd w yb (yo + k)) m (wd w xb (xo + k)), k + 1, b1, by omega, by go_num, by go_num, Lib.hid ?_, ?_⟩
        · rw [Val_set (w := wr.drewN nq) hzk, Val_succ w xb, Val_succ w yb, Nat.pow_succ]
          exact alg_am h0 h1
        · exact ((hC.mono (fun b o _ h => ⟨h.1, h.2.1, by have := h.2.2; omega⟩)).drewN nq).setW (w := wr.drewN nq) hzk (addLo_lt _ _ _) (fun _ => ⟨rfl, by omega, by omega⟩)
      case measure => simp [intOf]; omega
    · have hkn : k = n := by omega
      subst hkn
      go_wp2_with fail
      go_ret
      exact ⟨cc, rfl, hcc, hV.out, hC⟩
theorem addMulVVWW (zb zo zc xb xo xc yb yo yc n m a : Nat) (w : World) (hn : n < 4611686018427387904) (hm : m < WB) (ha : a < WB)
    (hz : Wr w zb zo n) (hx : ∀ i, i < n → IsW w xb (xo + i)) (hy : ∀ i, i < n → IsW w yb (yo + i))
    (hxz : xb ≠ zb ∨ xo = zo ∨ xo + n ≤ zo ∨ zo + n ≤ xo) (hyz : yb ≠ zb ∨ yo = zo ∨ yo + n ≤ zo ∨ zo + n ≤ yo) :
    Calls Tryz.prog 229 #[.slice (some ⟨zb, zo, none⟩) n zc, .slice (some ⟨xb, xo, none⟩) n xc, .slice (some ⟨yb, yo, none⟩) n yc, .int .u64 m, .int .u64 a] w fun e w' =>
      ∃ c : Nat, e = .returned (.int .u64 c) ∧ c < WB ∧ Val w' zb zo n + c * WB ^ n = Val w xb xo n + Val w yb yo n * m + a ∧ Chg (Rng zb zo n) w w' := by
  go_enter Tryz.func229, Tryz.ntmps229
  go_wp2_with fail
  refine (addMulVVWW_g zb zo zc xb xo xc yb yo yc n m a w hn hm ha hz hx hy hxz hyz).mono ?_
  rintro e w' ⟨c, rfl, h1, h2, h3⟩
  have H2 := Lib.hid h2
  clear h2
  go_wp2_with fail
  go_ret
  exact ⟨c, rfl, h1, H2.out, h3⟩
theorem and63 {s : Nat} (h : s < 64) : bits BinOp.and .u64 (s : Int) 63 = (s : Int) := by
  rw [show (63 : Int) = ((63 : Nat) : Int) from rfl, bits_and_u64_nat s 63 (by omega) (by omega)]
  congr 1
  rw [show (63 : Nat) = 2 ^ 6 - 1 from rfl, Nat.and_two_pow_sub_one_eq_mod]
  omega
theorem shift_eq (a s : Nat) (hs : s < 64) : a * 2 ^ s % WB + WB * (a / 2 ^ (64 - s)) = a * 2 ^ s := by
  have h : a / 2 ^ (64 - s) = a * 2 ^ s / WB := by
    rw [WB_eq, show (64 : Nat) = (64 - s) + s by omega, Nat.pow_add, Nat.mul_div_mul_right _ _ (Nat.two_pow_pos s)]
    rw [show 64 - s + s - s = 64 - s by omega]
  rw [h]; exact Nat.mod_add_div _ _
theorem wrap_cast (n : Nat) : IntKind.u64.wrap (n : Int) = ((n % WB : Nat) : Int) := by rw [IntKind.wrap_u64]; unfold WB; omega
theorem cast_mul_pow (x s : Nat) : (x : Int) * 2 ^ s = ((x * 2 ^ s : Nat) : Int) := by rw [Int.natCast_mul, Int.natCast_pow]; rfl
theorem cast_div_pow (x s : Nat) : (x : Int) / 2 ^ s = ((x / 2 ^ s : Nat) : Int) := by rw [Int.natCast_ediv, Int.natCast_pow]; rfl
theorem or_shift {x y s : Nat} (hx : x < WB) (hy : y < WB) (hs0 : 0 < s) (hs : s < 64) :
    bits BinOp.or .u64 (IntKind.u64.wrap ((x : Int) * 2 ^ s)) ((y : Int) / 2 ^ (64 - s)) = ((x * 2 ^ s % WB + y / 2 ^ (64 - s) : Nat) : Int) := by
  have e1 : IntKind.u64.wrap ((x : Int) * 2 ^ s) = ((x * 2 ^ s % WB : Nat) : Int) := by rw [cast_mul_pow, wrap_cast]
  have e2 : (y : Int) / 2 ^ (64 - s) = ((y / 2 ^ (64 - s) : Nat) : Int) := cast_div_pow _ _
  have h1 : x * 2 ^ s % WB < WB := Nat.mod_lt _ WB_pos
  have h2 : y / 2 ^ (64 - s) < 2 ^ s := by
    rw [Nat.div_lt_iff_lt_mul (Nat.two_pow_pos _), ← Nat.pow_add, show s + (64 - s) = 64 by omega]; exact hy
  have h3 : 2 ^ s ≤ WB := by rw [WB_eq]; exact Nat.pow_le_pow_right (by decide) (by omega)
  rw [e1, e2, bits_or_u64_nat _ _ h1 (Nat.lt_of_lt_of_le h2 h3)]
  congr 1
  have h4 : x * 2 ^ s % WB = 2 ^ s * (x % 2 ^ (64 - s)) := by
    rw [WB_eq, show (64 : Nat) = (64 - s) + s by omega, Nat.pow_add, Nat.mul_mod_mul_right, Nat.mul_comm]
    rw [show 64 - s + s - s = 64 - s by omega]
  rw [h4, ← Nat.two_pow_add_eq_or_of_lt h2]
theorem V_lsh (x z : Nat → Nat) (s : Nat) (hs : s < 64) (h0 : z 0 = x 0 * 2 ^ s % WB) : ∀ n, (∀ j, 0 < j → j < n + 1 → z j = x j * 2 ^ s % WB + x (j - 1) / 2 ^ (64 - s)) →
    V z (n + 1) + x n / 2 ^ (64 - s) * WB ^ (n + 1) = V x (n + 1) * 2 ^ s
  | 0, _ => by
    have := shift_eq (x 0) s hs
    simp only [V, h0, Nat.pow_zero, Nat.zero_add, Nat.mul_one, Nat.pow_succ, Nat.one_mul]
    rw [Nat.mul_comm _ WB]; exact this
  | n + 1, h => by
    have ih := V_lsh x z s hs h0 n (fun j h1 h2 => h j h1 (by omega))
    have h1 := h (n + 1) (by omega) (by omega)
    have h2 := shift_eq (x (n + 1)) s hs
    have v1 : V z (n + 1 + 1) = V z (n + 1) + z (n + 1) * WB ^ (n + 1) := rfl
    have v2 : V x (n + 1 + 1) = V x (n + 1) + x (n + 1) * WB ^ (n + 1) := rfl
    rw [v1, v2, h1, Nat.add_mul (V x (n + 1)), ← ih, Nat.add_sub_cancel, Nat.pow_succ WB (n + 1)]
    generalize WB ^ (n + 1) = P at *
    generalize x (n + 1) * 2 ^ s % WB = a at *
    generalize x (n + 1) / 2 ^ (64 - s) = b at *
    generalize x n / 2 ^ (64 - s) = c at *
    have h3 : x (n + 1) * P * 2 ^ s = (a + WB * b) * P := by rw [h2]; grind
    rw [h3]; generalize WB = B; grind
theorem or_lt {x y s : Nat} (hy : y < WB) (_hs0 : 0 < s) (hs : s < 64) : x * 2 ^ s % WB + y / 2 ^ (64 - s) < WB := by
  have h2 : y / 2 ^ (64 - s) < 2 ^ s := by
    rw [Nat.div_lt_iff_lt_mul (Nat.two_pow_pos _), ← Nat.pow_add, show s + (64 - s) = 64 by omega]; exact hy
  have h4 : x * 2 ^ s % WB = 2 ^ s * (x % 2 ^ (64 - s)) := by
    rw [WB_eq, show (64 : Nat) = (64 - s) + s by omega, Nat.pow_add, Nat.mul_mod_mul_right, Nat.mul_comm]
    rw [show 64 - s + s - s = 64 - s by omega]
  have h5 : x % 2 ^ (64 - s) + 1 ≤ 2 ^ (64 - s) := Nat.mod_lt _ (Nat.two_pow_pos _)
  have h6 : 2 ^ s * (x % 2 ^ (64 - s) + 1) ≤ 2 ^ s * 2 ^ (64 - s) := Nat.mul_le_mul_left _ h5
  rw [← Nat.pow_add, show s + (64 - s) = 64 by omega, ← WB_eq, Nat.mul_add] at h6
  omega
theorem Val_lsh (w w' : World) (zb zo xb xo m s : Nat) (hs : s < 64) (h0 : wd w' zb zo = wd w xb xo * 2 ^ s % WB)
    (h : ∀ j, 0 < j → j < m + 1 → wd w' zb (zo + j) = wd w xb (xo + j) * 2 ^ s % WB + wd w xb (xo + (j - 1)) / 2 ^ (64 - s)) :
    Val w' zb zo (m + 1) + wd w xb (xo + m) / 2 ^ (64 - s) * WB ^ (m + 1) = Val w xb xo (m + 1) * 2 ^ s :=
  V_lsh (fun i => wd w xb (xo + i)) (fun i => wd w' zb (zo + i)) s hs h0 m h
theorem ret_int {k : IntKind} {a b : Int} (h : a = b) : Ending.returned (.int k a) = .returned (.int k b) := by rw [h]
set_option maxHeartbeats 400000 in
theorem lshVU_g (zb zo zc xb xo xc n s : Nat) (w : World) (hn : n < 4611686018427387904) (hn0 : 0 < n) (hs0 : 0 < s) (hs : s < 64)
    (hz : Wr w zb zo n) (hx : ∀ i, i < n → IsW w xb (xo + i)) (hxz : xb ≠ zb ∨ xo ≤ zo ∨ zo + n ≤ xo) :
    Calls Tryz.prog 235 #[.slice (some ⟨zb, zo, none⟩) n zc, .slice (some ⟨xb, xo, none⟩) n xc, .int .u64 s] w fun e w' =>
      ∃ c : Nat, e = .returned (.int .u64 c) ∧ c < WB ∧ Val w' zb zo n + c * WB ^ n = Val w xb xo n * 2 ^ s ∧ Chg (Rng zb zo n) w w' := by
  have hnn : ((n : Int) == n) = true := by simp
  have hn1 : ((n : Int) == 0) = false := by simp; omega
  have hs1 : ((s : Int) == 0) = false := by simp; omega
  have hxt := (hx (n - 1) (by omega)).cell
  have e1 : bits BinOp.and .u64 (s : Int) 63 = (s : Int) := and63 (by omega)
  have e2 : bits BinOp.and .u64 (64 - (s : Int)) 63 = 64 - (s : Int) := by
    have := and63 (s := 64 - s) (by omega)
    rw [show ((64 - s : Nat) : Int) = 64 - (s : Int) by omega] at this
    exact this
  go_enter Tryz.func235, Tryz.ntmps235
  go_wp2_with fail
  go_loopw [8] (fun i wr => ∃ k : Nat, k < n ∧ i = .int .i64 k ∧ (∀ j, k < j → j < n → wd wr zb (zo + j) = wd w xb (xo + j) * 2 ^ s % WB + wd w xb (xo + (j - 1)) / 2 ^ (64 - s)) ∧ Chg (Rng zb (zo + (k + 1)) (n - (k + 1))) w wr) (fun i _ => (intOf i).toNat)
  case atStart => exact ⟨n - 1, by omega, by go_num, fun j _ _ => by omega, Chg.refl _ _⟩
  case round =>
    obtain ⟨k, hk, rfl, hV, hC⟩ := hrel
    have HV := Lib.hid hV
    clear hV
    by_cases hlt : 0 < k
    · have hxk := hx k hk
      have hxj := hx (k - 1) (by omega)
      have hzk := hC.isW _ _ (hz.isW k hk)
      have cx : wr.cell? ⟨xb, xo + k, none⟩ = some (.int .u64 (wd w xb (xo + k) : Nat)) := (hC.cell _ _ hxk.block (by unfold Rng; omega)).trans hxk.cell
      have cy : wr.cell? ⟨xb, xo + (k - 1), none⟩ = some (.int .u64 (wd w xb (xo + (k - 1)) : Nat)) := (hC.cell _ _ hxj.block (by unfold Rng; omega)).trans hxj.cell
      have cz := hzk.cell
      have fz : wr.frozen? ⟨zb, zo + k, none⟩ = false := (hC.frozen _ (hz.isW k hk).block).trans (hz.free k hk)
      have lx := hxk.lt
      have ly := hxj.lt
      have i1 : (k : Int) < (n : Int) := by omega
      have i2 : 0 ≤ (k : Int) - 1 := by omega
      go_wp2_with fail
      go_region
      go_wp2_with fail
      go_roundw
      case rel =>
        rw [or_shift lx ly hs0 hs]
        refine ⟨k - 1, by omega, by go_num, fun j h1 h2 => ?_, ?_⟩
        · by_cases e : j = k
          · subst e; exact wd_setCell_same hzk.cell
          · exact (wd_setCell_ne (.inr (by omega))).trans (HV.out j (by omega) h2)
        · refine Chg.drew (Chg.setW (hC.mono (fun b o _ h => ?_)) hzk (or_lt ly hs0 hs) (fun _ => ?_))
          · obtain ⟨h1, h2, h3⟩ := h; exact ⟨h1, by omega, by omega⟩
          · exact ⟨rfl, by omega, by omega⟩
      case measure => simp [intOf]; omega
    · have hkn : k = 0 := by omega
      subst hkn
      have hxk := hx 0 hk
      have hzk := hC.isW _ _ (hz.isW 0 hk)
      have cx : wr.cell? ⟨xb, xo, none⟩ = some (.int .u64 (wd w xb xo : Nat)) := (hC.cell _ _ hxk.block (by unfold Rng; omega)).trans hxk.cell
      have cz : wr.cell? ⟨zb, zo, none⟩ = _ := hzk.cell
      have fz : wr.frozen? ⟨zb, zo, none⟩ = false := (hC.frozen _ (hz.isW 0 hk).block).trans (hz.free 0 hk)
      go_wp2_with fail
      go_ret
      have e1 : IntKind.u64.wrap ((wd w xb xo : Int) * 2 ^ s) = ((wd w xb xo * 2 ^ s % WB : Nat) : Int) := by rw [cast_mul_pow, wrap_cast]
      have e2 : (wd w xb (xo + (n - 1)) : Int) / 2 ^ (64 - s) = ((wd w xb (xo + (n - 1)) / 2 ^ (64 - s) : Nat) : Int) := cast_div_pow _ _
      rw [e1]
      refine ⟨wd w xb (xo + (n - 1)) / 2 ^ (64 - s), ret_int e2, Nat.lt_of_le_of_lt (Nat.div_le_self _ _) (hx (n - 1) (by omega)).lt, ?_, ?_⟩
      · have hfin := Val_lsh w (wr.setCell ⟨zb, zo, none⟩ (.int .u64 (wd w xb xo * 2 ^ s % WB : Nat))) zb zo xb xo (n - 1) s hs (wd_setCell_same cz) (fun j h1 h2 => (wd_setCell_ne (.inr (by omega))).trans (HV.out j h1 (by omega)))
        rw [show n - 1 + 1 = n by omega] at hfin
        exact hfin
      · refine Chg.setW (hC.mono (fun b o _ h => ?_)) hzk (Nat.mod_lt _ WB_pos) (fun _ => ⟨rfl, by omega, by omega⟩)
        obtain ⟨h1, h2, h3⟩ := h; exact ⟨h1, by omega, by omega⟩
theorem lshVU (zb zo zc xb xo xc n s : Nat) (w : World) (hn : n < 4611686018427387904) (hn0 : 0 < n) (hs0 : 0 < s) (hs : s < 64)
    (hz : Wr w zb zo n) (hx : ∀ i, i < n → IsW w xb (xo + i)) (hxz : xb ≠ zb ∨ xo ≤ zo ∨ zo + n ≤ xo) :
    Calls Tryz.prog 172 #[.slice (some ⟨zb, zo, none⟩) n zc, .slice (some ⟨xb, xo, none⟩) n xc, .int .u64 s] w fun e w' =>
      ∃ c : Nat, e = .returned (.int .u64 c) ∧ c < WB ∧ Val w' zb zo n + c * WB ^ n = Val w xb xo n * 2 ^ s ∧ Chg (Rng zb zo n) w w' := by
  go_enter Tryz.func172, Tryz.ntmps172
  go_wp2_with fail
  refine (lshVU_g zb zo zc xb xo xc n s w hn hn0 hs0 hs hz hx hxz).mono ?_
  rintro e w' ⟨c, rfl, h1, h2, h3⟩
  have H2 := Lib.hid h2
  clear h2
  go_wp2_with fail
  go_ret
  exact ⟨c, rfl, h1, H2.out, h3⟩
theorem shr_or {x y s : Nat} (hx : x < WB) (hs0 : 0 < s) (hs : s < 64) :
    bits BinOp.or .u64 ((x : Int) / 2 ^ s) (IntKind.u64.wrap ((y : Int) * 2 ^ (64 - s))) = ((x / 2 ^ s + y * 2 ^ (64 - s) % WB : Nat) : Int) := by
  have h1 : y * 2 ^ (64 - s) % WB < WB := Nat.mod_lt _ WB_pos
  have h2 : x / 2 ^ s < 2 ^ (64 - s) := by
    rw [Nat.div_lt_iff_lt_mul (Nat.two_pow_pos _), ← Nat.pow_add, show 64 - s + s = 64 by omega]; exact hx
  have h3 : 2 ^ (64 - s) ≤ WB := by rw [WB_eq]; exact Nat.pow_le_pow_right (by decide) (by omega)
  rw [cast_mul_pow, wrap_cast, cast_div_pow, bits_or_u64_nat _ _ (Nat.lt_of_lt_of_le h2 h3) h1]
  congr 1
  have h4 : y * 2 ^ (64 - s) % WB = 2 ^ (64 - s) * (y % 2 ^ s) := by
    rw [WB_eq]
    have : (2 : Nat) ^ 64 = 2 ^ s * 2 ^ (64 - s) := by rw [← Nat.pow_add, show s + (64 - s) = 64 by omega]
    rw [this, Nat.mul_mod_mul_right, Nat.mul_comm]
  rw [h4, Nat.or_comm, ← Nat.two_pow_add_eq_or_of_lt h2, Nat.add_comm]
theorem shr_or_lt {x y s : Nat} (hx : x < WB) (hs : s < 64) : x / 2 ^ s + y * 2 ^ (64 - s) % WB < WB := by
  have h2 : x / 2 ^ s < 2 ^ (64 - s) := by
    rw [Nat.div_lt_iff_lt_mul (Nat.two_pow_pos _), ← Nat.pow_add, show 64 - s + s = 64 by omega]; exact hx
  have h0 : WB = 2 ^ s * 2 ^ (64 - s) := by rw [WB_eq, ← Nat.pow_add, show s + (64 - s) = 64 by omega]
  have h4 : y * 2 ^ (64 - s) % WB = (y % 2 ^ s) * 2 ^ (64 - s) := by rw [h0, Nat.mul_mod_mul_right]
  have h5 : y % 2 ^ s + 1 ≤ 2 ^ s := Nat.mod_lt _ (Nat.two_pow_pos _)
  have h6 : (y % 2 ^ s + 1) * 2 ^ (64 - s) ≤ 2 ^ s * 2 ^ (64 - s) := Nat.mul_le_mul_right _ h5
  rw [← h0, Nat.add_mul] at h6
  omega
theorem V_low (f : Nat → Nat) (n : Nat) : V f (n + 1) = f 0 + WB * V (fun j => f (j + 1)) n := by
  have h := V_split f 1 n
  rw [Nat.add_comm 1 n] at h
  rw [h]; simp only [V, Nat.pow_zero, Nat.mul_one, Nat.zero_add, Nat.pow_one]
  rw [V_congr n (fun i _ => by rw [Nat.add_comm])]
theorem V_rsh (s : Nat) (hs : s < 64) : ∀ (n : Nat) (x z : Nat → Nat), (∀ j, j < n → z j = x j / 2 ^ s + x (j + 1) * 2 ^ (64 - s) % WB) → z n = x n / 2 ^ s →
    V z (n + 1) * 2 ^ s + x 0 % 2 ^ s = V x (n + 1)
  | 0, x, z, _, h => by
    simp only [V, h, Nat.pow_zero, Nat.zero_add, Nat.mul_one]
    exact Nat.div_add_mod' _ _
  | n + 1, x, z, h, h0 => by
    have ih := V_rsh s hs n (fun j => x (j + 1)) (fun j => z (j + 1)) (fun j hj => h (j + 1) (by omega)) h0
    have h1 := h 0 (by omega)
    rw [V_low x (n + 1), V_low z (n + 1), ← ih, h1]
    have hW : WB = 2 ^ s * 2 ^ (64 - s) := by rw [WB_eq, ← Nat.pow_add, show s + (64 - s) = 64 by omega]
    have h4 : x (0 + 1) * 2 ^ (64 - s) % WB = (x (0 + 1) % 2 ^ s) * 2 ^ (64 - s) := by rw [hW, Nat.mul_mod_mul_right]
    rw [h4]
    have h5 := Nat.div_add_mod' (x 0) (2 ^ s)
    generalize V (fun j => z (j + 1)) (n + 1) = q at *
    generalize x (0 + 1) % 2 ^ s = r at *
    generalize x 0 / 2 ^ s = t at *
    generalize x 0 % 2 ^ s = u at *
    rw [← h5, hW]
    generalize 2 ^ s = a
    generalize 2 ^ (64 - s) = b
    grind
theorem Val_rsh (w w' : World) (zb zo xb xo m s : Nat) (hs : s < 64) (h : ∀ j, j < m → wd w' zb (zo + j) = wd w xb (xo + j) / 2 ^ s + wd w xb (xo + (j + 1)) * 2 ^ (64 - s) % WB) (h0 : wd w' zb (zo + m) = wd w xb (xo + m) / 2 ^ s) :
    Val w' zb zo (m + 1) * 2 ^ s + wd w xb xo % 2 ^ s = Val w xb xo (m + 1) :=
  V_rsh s hs m (fun i => wd w xb (xo + i)) (fun i => wd w' zb (zo + i)) h h0
set_option maxHeartbeats 400000 in
theorem rshVU_g (zb zo zc xb xo xc n s : Nat) (w : World) (hn : n < 4611686018427387904) (hn0 : 0 < n) (hs0 : 0 < s) (hs : s < 64)
    (hz : Wr w zb zo n) (hx : ∀ i, i < n → IsW w xb (xo + i)) (hxz : xb ≠ zb ∨ zo ≤ xo ∨ xo + n ≤ zo) :
    Calls Tryz.prog 260 #[.slice (some ⟨zb, zo, none⟩) n zc, .slice (some ⟨xb, xo, none⟩) n xc, .int .u64 s] w fun e w' =>
      ∃ c : Nat, e = .returned (.int .u64 c) ∧ c < WB ∧ Val w' zb zo n * 2 ^ s + wd w xb xo % 2 ^ s = Val w xb xo n ∧ Chg (Rng zb zo n) w w' := by
  have hnn : ((n : Int) == n) = true := by simp
  have hn1 : ((n : Int) == 0) = false := by simp; omega
  have hs1 : ((s : Int) == 0) = false := by simp; omega
  have hxt : w.cell? ⟨xb, xo, none⟩ = some (.int .u64 (wd w xb xo : Nat)) := (hx 0 (by omega)).cell
  have i0 : (0 : Int) < (n : Int) := by omega
  have e1 : bits BinOp.and .u64 (s : Int) 63 = (s : Int) := and63 (by omega)
  have e2 : bits BinOp.and .u64 (64 - (s : Int)) 63 = 64 - (s : Int) := by
    have := and63 (s := 64 - s) (by omega)
    rw [show ((64 - s : Nat) : Int) = 64 - (s : Int) by omega] at this
    exact this
  go_enter Tryz.func260, Tryz.ntmps260
  go_wp2_with fail
  go_loopw [8] (fun i wr => ∃ k : Nat, 0 < k ∧ k ≤ n ∧ i = .int .i64 k ∧ (∀ j, j + 1 < k → wd wr zb (zo + j) = wd w xb (xo + j) / 2 ^ s + wd w xb (xo + (j + 1)) * 2 ^ (64 - s) % WB) ∧ Chg (Rng zb zo (k - 1)) w wr) (fun i _ => n - (intOf i).toNat)
  case atStart => exact ⟨1, by omega, by omega, by go_num, fun j _ => by omega, Chg.refl _ _⟩
  case round =>
    obtain ⟨k, hk0, hk, rfl, hV, hC⟩ := hrel
    have HV := Lib.hid hV
    clear hV
    by_cases hlt : k < n
    · have hxk := hx k hlt
      have hxj := hx (k - 1) (by omega)
      have hzk := hC.isW _ _ (hz.isW (k - 1) (by omega))
      have cx : wr.cell? ⟨xb, xo + k, none⟩ = some (.int .u64 (wd w xb (xo + k) : Nat)) := (hC.cell _ _ hxk.block (by unfold Rng; omega)).trans hxk.cell
      have cy : wr.cell? ⟨xb, xo + (k - 1), none⟩ = some (.int .u64 (wd w xb (xo + (k - 1)) : Nat)) := (hC.cell _ _ hxj.block (by unfold Rng; omega)).trans hxj.cell
      have cz := hzk.cell
      have fz : wr.frozen? ⟨zb, zo + (k - 1), none⟩ = false := (hC.frozen _ (hz.isW (k - 1) (by omega)).block).trans (hz.free (k - 1) (by omega))
      have lx := hxk.lt
      have ly := hxj.lt
      have i1 : (k : Int) < (n : Int) := by omega
      have i2 : 0 ≤ (k : Int) - 1 := by omega
      go_wp2_with fail
      go_region
      go_wp2_with fail
      go_roundw
      case rel =>
        rw [shr_or ly hs0 hs]
        refine ⟨k + 1, by omega, by omega, by go_num, fun j h1 => ?_, ?_⟩
        · by_cases e : j = k - 1
          · subst e; rw [show k - 1 + 1 = k by omega]; exact wd_setCell_same hzk.cell
          · exact (wd_setCell_ne (.inr (by omega))).trans (HV.out j (by omega))
        · refine Chg.drew (Chg.setW (hC.mono (fun b o _ h => ?_)) hzk (shr_or_lt ly hs) (fun _ => ?_))
          · obtain ⟨h1, h2, h3⟩ := h; exact ⟨h1, by omega, by omega⟩
          · exact ⟨rfl, by omega, by omega⟩
      case measure => simp [intOf]; omega
    · have hkn : k = n := by omega
      subst hkn
      have hxk := hx (k - 1) (by omega)
      have hzk := hC.isW _ _ (hz.isW (k - 1) (by omega))
      have cx : wr.cell? ⟨xb, xo + (k - 1), none⟩ = some (.int .u64 (wd w xb (xo + (k - 1)) : Nat)) := (hC.cell _ _ hxk.block (by unfold Rng; omega)).trans hxk.cell
      have cz := hzk.cell
      have fz : wr.frozen? ⟨zb, zo + (k - 1), none⟩ = false := (hC.frozen _ (hz.isW (k - 1) (by omega)).block).trans (hz.free (k - 1) (by omega))
      go_wp2_with fail
      go_ret
      rw [cast_div_pow]
      refine ⟨wd w xb xo * 2 ^ (64 - s) % WB, ret_int (by rw [cast_mul_pow, wrap_cast]), Nat.mod_lt _ WB_pos, ?_, ?_⟩
      · have hfin := Val_rsh w (wr.setCell ⟨zb, zo + (k - 1), none⟩ (.int .u64 (wd w xb (xo + (k - 1)) / 2 ^ s : Nat))) zb zo xb xo (k - 1) s hs (fun j h1 => (wd_setCell_ne (.inr (by omega))).trans (HV.out j (by omega))) (wd_setCell_same cz)
        rw [show k - 1 + 1 = k by omega] at hfin
        exact hfin
      · refine Chg.setW (hC.mono (fun b o _ h => ?_)) hzk (Nat.lt_of_le_of_lt (Nat.div_le_self _ _) hxk.lt) (fun _ => ⟨rfl, by omega, by omega⟩)
        obtain ⟨h1, h2, h3⟩ := h; exact ⟨h1, by omega, by omega⟩
theorem rshVU (zb zo zc xb xo xc n s : Nat) (w : World) (hn : n < 4611686018427387904) (hn0 : 0 < n) (hs0 : 0 < s) (hs : s < 64)
    (hz : Wr w zb zo n) (hx : ∀ i, i < n → IsW w xb (xo + i)) (hxz : xb ≠ zb ∨ zo ≤ xo ∨ xo + n ≤ zo) :
    Calls Tryz.prog 208 #[.slice (some ⟨zb, zo, none⟩) n zc, .slice (some ⟨xb, xo, none⟩) n xc, .int .u64 s] w fun e w' =>
      ∃ c : Nat, e = .returned (.int .u64 c) ∧ c < WB ∧ Val w' zb zo n * 2 ^ s + wd w xb xo % 2 ^ s = Val w xb xo n ∧ Chg (Rng zb zo n) w w' := by
  go_enter Tryz.func208, Tryz.ntmps208
  go_wp2_with fail
  refine (rshVU_g zb zo zc xb xo xc n s w hn hn0 hs0 hs hz hx hxz).mono ?_
  rintro e w' ⟨c, rfl, h1, h2, h3⟩
  have H2 := Lib.hid h2
  clear h2
  go_wp2_with fail
  go_ret
  exact ⟨c, rfl, h1, H2.out, h3⟩
end Go.Proofs.YtacfhndledcmgaaGreatDoor
