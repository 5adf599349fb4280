/- Lemmas for the law FnBack: strconv.ParseInt of few figures. Conditions: those in each theorem; none besides. -/
import Derived.Test.YtacfhndledcmgaaGreatDoorJ23
import Derived.Test.YtacfhndledcmgaaGreatDoorM173
set_option linter.unusedVariables false
set_option linter.unusedSimpArgs false
namespace Go.Proofs.YtacfhndledcmgaaGreatDoor
open Go.RowKit
theorem cell_heap {w w' : World} {b o : Nat} (h : w'.heap[b]? = w.heap[b]?) : w'.cell? ⟨b, o, none⟩ = w.cell? ⟨b, o, none⟩ := cell_of_block (a := ⟨b, o, none⟩) h
theorem chg_of_heap {w w' : World} (h1 : w'.os = w.os) (h2 : w'.tape = w.tape) (h3 : w'.output = w.output) (h4 : w.heap.size ≤ w'.heap.size) (h : ∀ b, b < w.heap.size → w'.heap[b]? = w.heap[b]?) : Chg No w w' where
  os := h1
  tape := h2
  output := h3
  size := h4
  cell := fun b o hb _ => cell_heap (h b hb)
  frozen := fun a ha => by unfold World.frozen?; rw [h _ ha]
  block := fun b hb _ => h b hb
  shape := fun b hb => by unfold World.shape?; rw [h b hb]
  isW := fun b o hi => hi.congr (cell_heap (h b hi.block))
  isB := fun b o hi => hi.congr (cell_heap (h b hi.block))
  plain := fun b hp => by obtain ⟨c, t, hh⟩ := hp; exact ⟨c, t, (h b (Plain.lt ⟨c, t, hh⟩)).trans hh⟩
theorem chg_bytesWorld (w : World) (e : TypeId) (s : ByteArray) : Chg No w (Lib.bytesWorld w e s) := by
  refine chg_of_heap rfl rfl rfl ?_ fun b hb => ?_
  · simp [Lib.bytesWorld, World.freeze]
  · have h1 : (w.drew.alloc (.cells (Lib.bytesCells w e s) e)).heap[b]? = w.heap[b]? := Below.heap_alloc w.drew _ b hb
    unfold Lib.bytesWorld World.freeze
    simp only [if_neg (show ¬ (1 : Nat) = 0 by decide), Array.getElem?_modify]
    rw [if_neg (Nat.ne_of_gt hb)]
    exact h1
theorem uint_digits : ∀ (ds : List Nat) (acc n : Nat), (∀ x ∈ ds, 48 ≤ x ∧ x ≤ 57) → ds.length + n ≤ 6 → acc < 10 ^ n → Lib.parseUintM 18446744073709551615 acc (ds.map UInt8.ofNat) = .ok (ds.foldl (fun a c => a * 10 + (c - 48)) acc) ∧ ds.foldl (fun a c => a * 10 + (c - 48)) acc < 10 ^ (ds.length + n)
  | [], acc, n, _, _, ha => ⟨rfl, by simpa using ha⟩
  | c :: r, acc, n, hd, h6, ha => by
    have hc := hd c (by simp)
    have hl : r.length + (n + 1) ≤ 6 := by simp at h6; omega
    have hn : (10 : Nat) ^ n ≤ 10 ^ 5 := Nat.pow_le_pow_right (by decide) (by omega)
    have h5 : (10 : Nat) ^ 5 = 100000 := by decide
    have hp : (10 : Nat) ^ (n + 1) = 10 ^ n * 10 := Nat.pow_succ _ _
    have hcn : (UInt8.ofNat c).toNat = c := by simp [UInt8.toNat_ofNat']; omega
    obtain ⟨ih1, ih2⟩ := uint_digits r (acc * 10 + (c - 48)) (n + 1) (fun x hx => hd x (by simp [hx])) hl (by omega)
    refine ⟨?_, ?_⟩
    · rw [List.map_cons]
      unfold Lib.parseUintM
      rw [hcn, if_pos hc, if_neg (by omega), if_neg (by omega)]
      exact ih1
    · have e : (c :: r).length + n = r.length + (n + 1) := by simp; omega
      rw [e]; exact ih2
theorem txt_list (l : List Nat) : (txt l).data.toList = l.map UInt8.ofNat := rfl
theorem uintB_digits (ds : List Nat) (h0 : ds ≠ []) (hd : ∀ x ∈ ds, 48 ≤ x ∧ x ≤ 57) (h6 : ds.length ≤ 6) : Lib.parseUintB 64 (ds.map UInt8.ofNat) = .ok (decV ds) ∧ decV ds < 10 ^ 6 := by
  obtain ⟨h1, h2⟩ := uint_digits ds 0 0 hd h6 (by decide)
  refine ⟨?_, Nat.lt_of_lt_of_le h2 (Nat.pow_le_pow_right (by decide) h6)⟩
  unfold Lib.parseUintB
  rw [if_neg (by simpa using h0)]
  exact h1
theorem pi_ok : PiOk := by
  intro sg ds W h0 hd h6
  obtain ⟨h1, h2⟩ := uintB_digits ds h0 hd h6
  have h10 : (10 : Nat) ^ 6 = 1000000 := by decide
  have hp : Lib.parseIntB 64 (txt ((if sg then [45] else []) ++ ds)).data.toList = .ok (sgI sg (decV ds)) := by
    rw [txt_list]
    cases sg
    · cases ds with
      | nil => exact absurd rfl h0
      | cons c r =>
        have hc := hd c (by simp)
        have hcn : (UInt8.ofNat c).toNat = c := by simp [UInt8.toNat_ofNat']; omega
        rw [List.map_cons] at h1
        simp only [Bool.false_eq_true, if_false, List.nil_append, List.map_cons]
        unfold Lib.parseIntB
        simp only [hcn, show ¬ c = 43 by omega, show ¬ c = 45 by omega, or_self, if_false]
        rw [h1]
        simp only [not_false_eq_true, true_and, false_and, if_false]
        rw [if_neg (by omega)]
        rfl
    · simp only [if_true, List.cons_append, List.nil_append, List.map_cons]
      unfold Lib.parseIntB
      simp only [show (UInt8.ofNat 45).toNat = 45 from rfl, or_true, if_true, h1]
      rw [if_neg (by simp), if_neg (by simp; omega)]
      rfl
  refine (Tryz.strconv_ParseInt_10_at64_ok (txt ((if sg then [45] else []) ++ ds)) ?_ _ hp W).mono ?_
  · have : (txt ((if sg then [45] else []) ++ ds)).size = ((if sg then [45] else []) ++ ds).length := txt_size _
    rw [this]
    cases sg <;> simp <;> omega
  · rintro e w' ⟨h3, h4⟩
    refine ⟨h3, ?_⟩
    rcases h4 with rfl | ⟨t, rfl⟩
    · exact Chg.refl _ _
    · exact chg_bytesWorld _ _ _
end Go.Proofs.YtacfhndledcmgaaGreatDoor
