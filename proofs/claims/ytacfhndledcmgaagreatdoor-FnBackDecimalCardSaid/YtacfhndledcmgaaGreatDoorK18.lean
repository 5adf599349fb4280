/- Lemmas for the law FnBackDecimal: more of the plain laws. Conditions: those in each theorem; none besides. -/
import Derived.Test.YtacfhndledcmgaaGreatDoorK17
import Derived.Test.YtacfhndledcmgaaGreatDoorK11
import Derived.Test.YtacfhndledcmgaaGreatDoorK12
import Derived.Test.YtacfhndledcmgaaGreatDoorM127
set_option linter.unusedVariables false
set_option linter.unusedSimpArgs false
namespace Go.Proofs.YtacfhndledcmgaaGreatDoor
open Go.RowKit
theorem Sn.zero_len {w : World} {A : Option Addr} {m c X : Nat} (h : Sn w (.slice A m c) X) : (m = 0 ↔ X = 0) := by
  obtain ⟨l, A', c', e, hle, hr, rfl, hd, ht⟩ := h.view
  cases e
  constructor
  · intro h0
    have : l = [] := List.length_eq_zero_iff.1 h0
    subst this; rfl
  · intro h0
    rcases Nat.eq_zero_or_pos l.length with h | h
    · exact h
    · have h1 := Vb_ge ht h
      have := Nat.pow_pos (n := l.length - 1) (show 0 < 65536 by decide)
      omega
/-- A block of cells that nothing but its owner writes. -/
def Bk (W : World) (b : Nat) (us : Array Value) : Prop := ∃ t, W.heap[b]? = some (.cells us t (0, 0))
theorem Bk.new (w : World) (us : Array Value) (t : TypeId) : Bk (w.alloc (.cells us t)) w.heap.size us := ⟨t, by show (w.heap.push _)[w.heap.size]? = _; simp⟩
theorem Bk.plain {W : World} {b : Nat} {us : Array Value} (h : Bk W b us) : Plain W b := ⟨_, _, h.choose_spec⟩
theorem Bk.lt {W : World} {b : Nat} {us : Array Value} (h : Bk W b us) : b < W.heap.size := h.plain.lt
theorem Bk.cell {W : World} {b : Nat} {us : Array Value} (h : Bk W b us) (o : Nat) : W.cell? ⟨b, o, none⟩ = us[o]? := by
  obtain ⟨t, h⟩ := h
  simp [World.cell?, h]
theorem Bk.chg {S : Nat → Nat → Prop} {W W' : World} {b : Nat} {us : Array Value} (h : Bk W b us) (hc : Chg S W W') (hS : ∀ o, ¬ S b o) : Bk W' b us := by
  have hb := h.lt
  obtain ⟨t, h⟩ := h
  exact ⟨t, (hc.block _ hb hS).trans h⟩
theorem Bk.set {W : World} {b : Nat} {us : Array Value} (h : Bk W b us) (o : Nat) (v : Value) : Bk (W.setCell ⟨b, o, none⟩ v) b (us.setIfInBounds o v) := by
  obtain ⟨t, h⟩ := h
  exact ⟨t, by simp [World.setCell, Array.getElem?_modify, h]⟩
theorem Bk.set_chg {W : World} {b : Nat} {us : Array Value} {u : Value} (h : Bk W b us) (o : Nat) (v : Value) (hu : us[o]? = some u) (hn : NoWB u) : Chg (Blk b) W (W.setCell ⟨b, o, none⟩ v) :=
  (Chg.refl (Blk b) W).setO v ((h.cell o).trans hu) hn.1 hn.2 (fun _ => rfl)
/-- Two new blocks: a struct that is handed over, and one for the result. -/
theorem two_new (w : World) (us vs : Array Value) (t t' : TypeId) : Bk ((w.alloc (.cells us t)).alloc (.cells vs t')) w.heap.size us ∧ Bk ((w.alloc (.cells us t)).alloc (.cells vs t')) (w.heap.size + 1) vs ∧ Chg No w ((w.alloc (.cells us t)).alloc (.cells vs t')) := by
  have g1 := Bk.new w us t
  have k1 : Chg No w (w.alloc (.cells us t)) := (Chg.refl No w).alloc _
  have s1 : (w.alloc (.cells us t)).heap.size = w.heap.size + 1 := by simp
  have g2 := Bk.new (w.alloc (.cells us t)) vs t'
  have k2 := (Chg.refl No (w.alloc (.cells us t))).alloc (.cells vs t')
  rw [s1] at g2
  exact ⟨g1.chg k2 (fun _ f => f), g2, k1.then k2 (fun _ _ _ f => f)⟩
theorem b16 {a k : Nat} (h : a < 2 ^ k) {n : Nat} (hk : k ≤ 16 * n) : a < 65536 ^ n := by
  rw [show (65536 : Nat) = 2 ^ 16 by decide, ← Nat.pow_mul]
  exact Nat.lt_of_lt_of_le h (Nat.pow_le_pow_right (by decide) hk)
/-- A byte of a text. -/
theorem txt_get {l : List Nat} {i : Nat} (h : i < (txt l).size) (hb : ∀ x ∈ l, x < 256) : ((txt l)[i]'h).toNat = l.getD i 0 := by
  have h' : i < l.length := by rwa [txt_size] at h
  have e : (txt l)[i]'h = UInt8.ofNat (l[i]) := by
    show (txt l).data[i] = _
    simp [txt]
  rw [e, gd_lt h']
  have := hb l[i] (List.getElem_mem h')
  simp [UInt8.toNat_ofNat']; omega
/-- The mantissa of a text of format e: a figure, a point, the others. -/
def mtx (fs : List Nat) (k : Nat) : List Nat := asc (fs.take 1) ++ if 0 < k then 46 :: asc (fs.drop 1) else []
/-- What stands behind it. -/
def ptx (neg : Bool) (de : List Nat) : List Nat := [101] ++ [if neg then 45 else 43] ++ asc de
theorem asc_getD (l : List Nat) {i : Nat} (h : i < l.length) : (asc l).getD i 0 = 48 + l.getD i 0 := by
  rw [gd_lt (by simpa [asc] using h), gd_lt h]; simp [asc]
theorem getD_app_lt {l m : List Nat} {i : Nat} (h : i < l.length) : (l ++ m).getD i 0 = l.getD i 0 := by
  rw [gd_lt (by simp; omega), gd_lt h, List.getElem_append_left h]
theorem getD_app_ge {l m : List Nat} {i : Nat} (h : l.length ≤ i) : (l ++ m).getD i 0 = m.getD (i - l.length) 0 := by
  rcases Nat.lt_or_ge i (l ++ m).length with h2 | h2
  · rw [gd_lt h2, List.getElem_append_right h, gd_lt (by simp at h2; omega)]
  · rw [gd_ge h2, gd_ge (by simp at h2; omega)]
set_option maxRecDepth 100000 in
set_option maxHeartbeats 1000000 in
theorem natOne_ok (w : World) (h17 : 17 ≤ w.heap.size) : Calls Tryz.prog 114 #[] w fun e w' => ∃ b c, e = .returned (.slice (some ⟨b, 0, none⟩) 1 c) ∧ Nt w' (.slice (some ⟨b, 0, none⟩) 1 c) 1 ∧ w.heap.size ≤ b ∧ Chg No w w' := by
  go_enter Tryz.func114, Tryz.ntmps114
  go_wp2_with fail
  go_ret
  have hc : ∀ t, (w.alloc (.cells #[.int .u64 1] t)).cell? ⟨w.heap.size, 0, none⟩ = some (.int .u64 ((1 : Nat) : Int)) := fun t => World.cell?_alloc_new _ _ _ _
  refine ⟨w.heap.size, 1, rfl, .inr ⟨w.heap.size, 0, 1, 1, rfl, ⟨Nat.le_refl _, by unfold maxLen; omega, fun i hi => ?_, Plain.new _ _ _, h17⟩, ?_, .inr ?_⟩, Nat.le_refl _, (Chg.refl No w).alloc _⟩
  · obtain rfl : i = 0 := by omega
    exact ⟨1, by decide, hc _⟩
  · have := wd_of (hc 149)
    simp [Val, V, this]
  · have := wd_of (hc 149)
    simp [this]
set_option maxRecDepth 100000 in
set_option maxHeartbeats 1000000 in
theorem dec_roundDown_no (b mb mo mc : Nat) (ds : List Nat) (x : Int) (n : Nat) (w : World) (h : DeX w b mb mo mc ds x) (hn : ds.length ≤ n) :
    Calls Tryz.prog 251 #[.pointer (some ⟨b, 0, none⟩), .int .i64 n] w fun e w' => e = .returned (.tuple #[]) ∧ w = w' := by
  have c0 := h.c0
  clear h
  have h1 : (ds.length : Int) ≤ n := by omega
  have h2 : (0 : Int) ≤ n := by omega
  go_enter Tryz.func251, Tryz.ntmps251
  go_wp2_with fail
  refine bodyPost_ret (results_none rfl _ _ _) rfl ?_
  exact ⟨rfl, rfl⟩
set_option maxRecDepth 100000 in
set_option maxHeartbeats 1000000 in
theorem dec_roundUp_no (b mb mo mc : Nat) (ds : List Nat) (x : Int) (n : Nat) (w : World) (h : DeX w b mb mo mc ds x) (hn : ds.length ≤ n) :
    Calls Tryz.prog 252 #[.pointer (some ⟨b, 0, none⟩), .int .i64 n] w fun e w' => e = .returned (.tuple #[]) ∧ w = w' := by
  have c0 := h.c0
  clear h
  have h1 : (ds.length : Int) ≤ n := by omega
  have h2 : (0 : Int) ≤ n := by omega
  go_enter Tryz.func252, Tryz.ntmps252
  go_wp2_with fail
  refine bodyPost_ret (results_none rfl _ _ _) rfl ?_
  exact ⟨rfl, rfl⟩
theorem nd_take {ds : List Nat} {n : Nat} (h : n ≤ ds.length) : Nd (ds.take n) = Dp ds n := by
  unfold Dp; rw [show n - ds.length = 0 by omega]; simp
theorem nd_split {ds : List Nat} (hd : ∀ d ∈ ds, d < 10) {n : Nat} (h : n ≤ ds.length) : ∃ R, R < 10 ^ (ds.length - n) ∧ Nd ds = Dp ds n * 10 ^ (ds.length - n) + R := by
  obtain ⟨R, h1, h2⟩ := Dp_tail hd n (ds.length - n)
  rw [show n + (ds.length - n) = ds.length by omega, Dp_len] at h2
  exact ⟨R, h1, h2⟩
theorem dp_pos {ds : List Nat} (ho : DOrd ds) {n : Nat} (h0 : 0 < n) (h : n ≤ ds.length) : Dp ds n ≠ 0 := by
  have h1 := dp_floor ho.2.2.2 (i := 1) (r := n) (by omega)
  rw [dp_one] at h1
  have h2 : 1 * 10 ^ (n - 1) ≤ ds.getD 0 0 * 10 ^ (n - 1) := Nat.mul_le_mul_right _ (Nat.pos_of_ne_zero ho.2.1)
  have := ten_pos (n - 1)
  omega
theorem sh_whole {ds ls us : List Nat} {x : Int} {inc : Prop} {i : Nat} (h : ds.length ≤ i + 1) : ShStep ds ls us x inc i ds x := .inl ⟨h, rfl, rfl⟩
theorem sh_down {ds ls us : List Nat} {x : Int} {inc : Prop} {i k : Nat} (ho : DOrd ds) (hi : i + 1 < ds.length) (hd : dnP ls ds inc i) (ht : TrimAt (ds.take (i + 1)) k) : ShStep ds ls us x inc i ((ds.take (i + 1)).take k) (if k = 0 then 0 else x) := by
  have htl : (ds.take (i + 1)).length = i + 1 := by rw [List.length_take]; omega
  have hk1 := ht.1
  rw [htl] at hk1
  have hN := Nd_trim ht
  rw [nd_take (by omega), htl] at hN
  have hk0 : k ≠ 0 := by
    rintro rfl
    rw [show (ds.take (i + 1)).take 0 = [] by simp] at hN
    exact dp_pos ho (n := i + 1) (by omega) (by omega) (by rw [hN]; simp [Nd])
  have hkl : ((ds.take (i + 1)).take k).length = k := by rw [List.length_take]; omega
  have hlast := ht.2.2.resolve_left hk0
  rw [if_neg hk0]
  refine .inr ⟨hi, ⟨by omega, ?_, ?_, fun d h => ho.2.2.2 d (List.mem_of_mem_take (List.mem_of_mem_take h))⟩, by omega, _, i + 1 - k, hN, by omega, .inl ⟨rfl, hd⟩⟩
  · rw [gd_lt (by omega), List.getElem_take, List.getElem_take, ← gd_lt (by omega)]; exact ho.2.1
  · rw [hkl, gd_lt (by omega), List.getElem_take, ← gd_lt (by omega)]; exact hlast
theorem sh_up {ds ls us ds' : List Nat} {x x' : Int} {inc : Prop} {i : Nat} (hi : i + 1 < ds.length) (hu : upP us ds inc i) (h : UpTo ds x (i + 1) ds' x') (hd : ∀ d ∈ ds', d < 10) : ShStep ds ls us x inc i ds' x' := by
  obtain ⟨⟨e, he1, he2⟩, h0, h1, h2, h3, h4, h5, h6⟩ := h
  rw [nd_take (by omega)] at he1
  exact .inr ⟨hi, ⟨h0, h2, h3, hd⟩, by omega, _, e, he1, by omega, .inr ⟨rfl, hu⟩⟩
theorem sh_round {ds ls us ds' : List Nat} {x x' : Int} {inc : Prop} {i : Nat} (ho : DOrd ds) (hi : i + 1 < ds.length) (hdn : dnP ls ds inc i) (hu : upP us ds inc i) (h : RoundTo ds x (i + 1) ds' x') (hd : ∀ d ∈ ds', d < 10) : ShStep ds ls us x inc i ds' x' := by
  obtain ⟨T, hT, hcase⟩ := h
  obtain ⟨R, hR1, hR2⟩ := nd_split ho.2.2.2 (n := i + 1) (by omega)
  rw [hR2] at hT
  have hnx := near_next hR1 hT
  rcases hcase with ⟨rfl, _, _⟩ | ⟨⟨e, he1, he2⟩, h0, h1, h2, h3, h4, h5, h6⟩
  · exfalso
    have := dp_pos ho (n := i + 1) (by omega) (by omega)
    omega
  · exact .inr ⟨hi, ⟨h0, h2, h3, hd⟩, by omega, T, e, he1, by omega, hnx.imp (fun h => ⟨h, hdn⟩) (fun h => ⟨h, hu⟩)⟩
end Go.Proofs.YtacfhndledcmgaaGreatDoor
