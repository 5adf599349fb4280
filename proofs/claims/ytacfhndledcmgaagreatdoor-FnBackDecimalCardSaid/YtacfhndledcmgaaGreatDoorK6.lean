/- Lemmas for the law FnBackDecimal: slices.Grow of words. Conditions: those in each theorem; none besides. -/
import Derived.Test.YtacfhndledcmgaaGreatDoorK5
import Derived.Shelf.Spec.SlicesGrow
set_option linter.unusedVariables false
set_option linter.unusedSimpArgs false
namespace Go.Proofs.YtacfhndledcmgaaGreatDoor
open Go.RowKit Go.Lib
/-- A new block of words: what stood in cs, then zeros. -/
theorem NW.newWords {w : World} {cs : Array Value} {n k l G : Nat} (hcs : ∀ i, i < cs.size → ∃ v : Nat, v < WB ∧ cs[i]? = some (.int .u64 v)) (hG : cs.size + n + k = G) (hl : l ≤ G) (hm : G ≤ maxLen) (hs : 17 ≤ w.heap.size) :
    NW (w.drew.alloc (.cells (cs ++ Builtin.zeroCells #[Value.int .u64 0] n ++ Builtin.zeroCells #[Value.int .u64 0] k) 149)) w.heap.size 0 l G := by
  refine ⟨hl, hm, fun i hi => ?_, Plain.new _ _ _, hs⟩
  rw [Nat.zero_add]
  have hz : ∀ n : Nat, Builtin.zeroCells #[Value.int .u64 0] n = Array.replicate n (.int .u64 0) := by
    intro n
    simp only [Builtin.zeroCells]
    apply Array.ext
    · simp
    · intro j h1 h2
      simp [Nat.mod_one]
  rw [hz, hz]
  have hc := World.cell?_alloc_new (w := w.drew) (cs ++ Array.replicate n (Value.int .u64 0) ++ Array.replicate k (Value.int .u64 0)) 149 i
  have hg : ∃ v : Nat, v < WB ∧ (cs ++ Array.replicate n (Value.int .u64 0) ++ Array.replicate k (Value.int .u64 0))[i]? = some (.int .u64 v) := by
    by_cases h1 : i < cs.size
    · obtain ⟨v, hv, he⟩ := hcs i h1
      refine ⟨v, hv, ?_⟩
      rw [Array.getElem?_append_left (by simp; omega), Array.getElem?_append_left h1]
      exact he
    · refine ⟨0, WB_pos, ?_⟩
      by_cases h2 : i < cs.size + n
      · rw [Array.getElem?_append_left (by simp; omega), Array.getElem?_append_right (by omega)]
        rw [Array.getElem?_replicate, if_pos (by first | omega | (simp; omega))]; rfl
      · rw [Array.getElem?_append_right (by simp; omega)]
        rw [Array.getElem?_replicate, if_pos (by first | omega | (simp; omega))]; rfl
  obtain ⟨v, hv, he⟩ := hg
  exact ⟨v, hv, hc.trans he⟩
set_option maxHeartbeats 4000000 in
set_option maxRecDepth 100000 in
theorem grow85_room (base : Option Addr) (l c n : Nat) (w : World) (hlc : l ≤ c) (hc : c ≤ maxLen) (hn : n ≤ maxLen) (hroom : l + n ≤ c) :
    Calls Tryz.prog 233 #[.slice base l c, .int .i64 n] w fun e w' => e = .returned (.slice base l c) ∧ w = w' := by
  unfold maxLen at hc hn
  have h1 : ¬ ((n : Int) < 0) := by omega
  have h2 : wrap64 ((c : Int) - (l : Int)) = (c : Int) - (l : Int) := by unfold wrap64; omega
  have h3 : wrap64 ((n : Int) - ((c : Int) - (l : Int))) = (n : Int) - ((c : Int) - (l : Int)) := by unfold wrap64; omega
  have h4 : ¬ ((n : Int) - ((c : Int) - (l : Int)) > 0) := by omega
  have h5 : ¬ ((0 : Int) < (n : Int) - ((c : Int) - (l : Int))) := by omega
  have H1 := hid hc; have H2 := hid hn
  go_enter Tryz.func233, Tryz.ntmps233
  go_wp2_with fail
  go_ret
  exact ⟨rfl, rfl⟩
set_option maxHeartbeats 4000000 in
set_option maxRecDepth 100000 in
theorem grow84_room (base : Option Addr) (l c n : Nat) (w : World) (hlc : l ≤ c) (hc : c ≤ maxLen) (hn : n ≤ maxLen) (hroom : l + n ≤ c) :
    Calls Tryz.prog 272 #[.slice base l c, .int .i64 n] w fun e w' => e = .returned (.slice base l c) ∧ w = w' := by
  unfold maxLen at hc hn
  have h1 : ¬ ((n : Int) < 0) := by omega
  have h2 : wrap64 ((c : Int) - (l : Int)) = (c : Int) - (l : Int) := by unfold wrap64; omega
  have h3 : wrap64 ((n : Int) - ((c : Int) - (l : Int))) = (n : Int) - ((c : Int) - (l : Int)) := by unfold wrap64; omega
  have h4 : ¬ ((n : Int) - ((c : Int) - (l : Int)) > 0) := by omega
  have h5 : ¬ ((0 : Int) < (n : Int) - ((c : Int) - (l : Int))) := by omega
  have H1 := hid hc; have H2 := hid hn
  go_enter Tryz.func272, Tryz.ntmps272
  go_wp2_with fail
  go_ret
  exact ⟨rfl, rfl⟩
end Go.Proofs.YtacfhndledcmgaaGreatDoor
