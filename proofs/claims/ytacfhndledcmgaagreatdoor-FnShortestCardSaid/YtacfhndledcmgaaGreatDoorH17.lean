/- Lemmas for the law FnShortest: reading a text of format e. Conditions: those in each theorem; none besides. -/
import Derived.Test.YtacfhndledcmgaaGreatDoorH16
import Derived.Test.YtacfhndledcmgaaGreatDoorH15
import Derived.Test.YtacfhndledcmgaaGreatDoorH14
import Derived.Test.YtacfhndledcmgaaGreatDoorM127
set_option linter.unusedVariables false
set_option linter.unusedSimpArgs false
namespace Go.Proofs.YtacfhndledcmgaaGreatDoor
open Go.RowKit
set_option maxRecDepth 100000 in
set_option maxHeartbeats 1000000 in
theorem spec_figure_dig (d c : Nat) (w : World) (hd : d < 10) (hc : c = 48 + d) :
    Calls Tryz.prog 69 #[.int .u8 c, .int .i64 10] w fun e w' => e = .returned (.int .i64 d) ∧ w = w' := by
  have i1 : (48 : Int) ≤ c := by omega
  have i2 : (c : Int) ≤ 57 := by omega
  have e1 : (c : Int) - 48 = (d : Int) := by omega
  have i3 : ¬ (10 : Int) ≤ d := by omega
  have t3 : decide (10 ≤ d) = false := decide_eq_false (by omega)
  have t4 : decide ((10 : Int) ≤ (d : Int)) = false := decide_eq_false (by omega)
  clear hc
  go_enter Tryz.func69, Tryz.ntmps69
  go_wp2_with fail
  go_ret
  exact ⟨rfl, rfl⟩
set_option maxRecDepth 100000 in
set_option maxHeartbeats 1000000 in
theorem spec_figure_no (c : Nat) (w : World) (hc : c = 46 ∨ c = 101) :
    Calls Tryz.prog 69 #[.int .u8 c, .int .i64 10] w fun e w' => e = .returned (.int .i64 (-1)) ∧ w = w' := by
  rcases hc with rfl | rfl
  · go_enter Tryz.func69, Tryz.ntmps69
    go_wp2_with fail
    go_ret
    exact ⟨rfl, rfl⟩
  · go_enter Tryz.func69, Tryz.ntmps69
    go_wp2_with fail
    go_ret
    exact ⟨rfl, rfl⟩
/-- A byte of a text. -/
theorem txt_get {l : List Nat} {i : Nat} (h : i < (txt l).size) (hb : ∀ x ∈ l, x < 256) : ((txt l)[i]'h).toNat = l.getD i 0 := by
  have h' : i < l.length := by rwa [txt_size] at h
  have e : (txt l)[i]'h = UInt8.ofNat (l[i]) := by
    show (txt l).data[i] = _
    simp [txt]
  rw [e, gd_lt h']
  have := hb l[i] (List.getElem_mem h')
  simp [UInt8.toNat_ofNat']; omega
/-- A Source in memory: six cells. -/
def srcV (n : Bool) (B : Int) (m : Value) (bh ex : Int) (two : Bool) : Array Value := #[.bool n, .int .i64 B, m, .int .i64 bh, .int .i64 ex, .bool two]
theorem load63 (W : World) (b : Nat) (n : Bool) (B : Int) (A : Option Addr) (k c : Nat) (bh ex : Int) (two : Bool) (h : Bk W b (srcV n B (.slice A k c) bh ex two)) : (loadVar 63 ⟨b, 0, none⟩).run Tryz.prog W = .ok (.agg (srcV n B (.slice A k c) bh ex two)) W := by
  have c0 : W.cell? ⟨b, 0, none⟩ = some (.bool n) := h.cell 0
  have c1 : W.cell? ⟨b, 1, none⟩ = some (.int .i64 B) := h.cell 1
  have c2 : W.cell? ⟨b, 2, none⟩ = some (.slice A k c) := h.cell 2
  have c3 : W.cell? ⟨b, 3, none⟩ = some (.int .i64 bh) := h.cell 3
  have c4 : W.cell? ⟨b, 4, none⟩ = some (.int .i64 ex) := h.cell 4
  have c5 : W.cell? ⟨b, 5, none⟩ = some (.bool two) := h.cell 5
  have h1 := Tryz.isAgg63
  have h2 := Tryz.sizeOf63
  unfold srcV
  go_simp
/-- Six cells stored. -/
def st6 (W : World) (b : Nat) (v0 v1 v2 v3 v4 v5 : Value) : World := (((((W.setCell ⟨b, 0, none⟩ v0).setCell ⟨b, 1, none⟩ v1).setCell ⟨b, 2, none⟩ v2).setCell ⟨b, 3, none⟩ v3).setCell ⟨b, 4, none⟩ v4).setCell ⟨b, 5, none⟩ v5
theorem Bk.st6 {W : World} {b : Nat} {u0 u1 u2 u3 u4 u5 : Value} (h : Bk W b #[u0, u1, u2, u3, u4, u5]) (v0 v1 v2 v3 v4 v5 : Value) : Bk (Go.Proofs.YtacfhndledcmgaaGreatDoor.st6 W b v0 v1 v2 v3 v4 v5) b #[v0, v1, v2, v3, v4, v5] := by
  have := (((((h.set 0 v0).set 1 v1).set 2 v2).set 3 v3).set 4 v4).set 5 v5
  simpa [Go.Proofs.YtacfhndledcmgaaGreatDoor.st6] using this
theorem Bk.st6_chg {W : World} {b : Nat} {u0 u1 u2 u3 u4 u5 : Value} (h : Bk W b #[u0, u1, u2, u3, u4, u5]) (n0 : NoWB u0) (n1 : NoWB u1) (n2 : NoWB u2) (n3 : NoWB u3) (n4 : NoWB u4) (n5 : NoWB u5) (v0 v1 v2 v3 v4 v5 : Value) : Chg (Blk b) W (Go.Proofs.YtacfhndledcmgaaGreatDoor.st6 W b v0 v1 v2 v3 v4 v5) := by
  have k0 := h.set_chg (u := u0) 0 v0 rfl n0
  have h0 := h.set 0 v0
  have k1 := h0.set_chg (u := u1) 1 v1 (by simp) n1
  have h1 := h0.set 1 v1
  have k2 := h1.set_chg (u := u2) 2 v2 (by simp) n2
  have h2 := h1.set 2 v2
  have k3 := h2.set_chg (u := u3) 3 v3 (by simp) n3
  have h3 := h2.set 3 v3
  have k4 := h3.set_chg (u := u4) 4 v4 (by simp) n4
  have h4 := h3.set 4 v4
  have k5 := h4.set_chg (u := u5) 5 v5 (by simp) n5
  exact ((((k0.then k1 (fun _ _ _ f => f)).then k2 (fun _ _ _ f => f)).then k3 (fun _ _ _ f => f)).then k4 (fun _ _ _ f => f)).then k5 (fun _ _ _ f => f)
theorem load63' (W : World) (b : Nat) (n : Bool) (B : Int) (A : Option Addr) (k c : Nat) (bh ex : Int) (two : Bool) (h : Bk W b #[.bool n, .int .i64 B, .slice A k c, .int .i64 bh, .int .i64 ex, .bool two]) : (loadVar 63 ⟨b, 0, none⟩).run Tryz.prog W = .ok (.agg #[.bool n, .int .i64 B, .slice A k c, .int .i64 bh, .int .i64 ex, .bool two]) W := load63 W b n B A k c bh ex two h
set_option maxRecDepth 100000 in
set_option maxHeartbeats 4000000 in
theorem spec_exponent (n : Bool) (A : Option Addr) (k c : Nat) (bh : Nat) (neg : Bool) (ds : List Nat) (w : World) (hd : ∀ d ∈ ds, d < 10) (hl0 : 0 < ds.length) (hl : ds.length ≤ 4) :
    Calls Tryz.prog 70 #[.agg #[.bool n, .int .i64 10, .slice A k c, .int .i64 bh, .int .i64 0, .bool false], .string (txt ([101] ++ [if neg then 45 else 43] ++ asc ds))] w fun e w' => e = .returned (.tuple #[.agg #[.bool n, .int .i64 10, .slice A k c, .int .i64 bh, .int .i64 (if neg then -(Nd ds : Int) else Nd ds), .bool false], .bool true]) ∧ Chg No w w' := by
  obtain ⟨l0, hl0e⟩ : ∃ l, l = [101] ++ [if neg then 45 else 43] ++ asc ds := ⟨_, rfl⟩
  have hb0 : ∀ x ∈ l0, x < 256 := by
    intro x hx
    rw [hl0e] at hx
    simp at hx
    rcases hx with rfl | rfl | hx
    · decide
    · split <;> decide
    · obtain ⟨d, h1, rfl⟩ := (by simpa [asc] using hx : ∃ d ∈ ds, 48 + d = x)
      have := hd d h1; omega
  obtain ⟨S, hS⟩ : ∃ S, S = txt l0 := ⟨_, rfl⟩
  obtain ⟨L, hL⟩ : ∃ L, L = ds.length + 2 := ⟨_, rfl⟩
  have hsz : S.size = L := by rw [hS, txt_size, hl0e, hL]; simp [asc]
  have g0 : ∀ h : 0 < S.size, (S[0]'h).toNat = 101 := by
    intro h
    subst hS
    rw [txt_get h hb0, hl0e]; rfl
  rw [← hl0e, ← hS]
  have hp0 : 0 < S.size := by omega
  have e0 := g0 hp0
  have hL1 : 2 < L := by omega
  have hL2 : L ≤ 6 := by omega
  obtain ⟨M, hM⟩ : ∃ M, M = L - 1 := ⟨_, rfl⟩
  have F1 : Hid (∀ S1, S1 = S.extract 1 L → S1 = txt ([if neg then 45 else 43] ++ asc ds)) := Lib.hid (by
    rintro S1 rfl
    rw [hS, txt_extract, hl0e, List.take_of_length_le (by rw [hL]; simp [asc])]; rfl)
  have F2 : Hid (∀ S2, S2 = (txt ([if neg then 45 else 43] ++ asc ds)).extract 1 M → S2 = txt (asc ds)) := Lib.hid (by
    rintro S2 rfl
    rw [txt_extract, List.take_of_length_le (by rw [hM, hL]; simp [asc])]; rfl)
  have sz1 : (txt ([if neg then 45 else 43] ++ asc ds)).size = M := by rw [txt_size, hM, hL]; simp [asc]
  have HL := Lib.hid hL
  have hM1 : 1 < M := by omega
  have hM2 : M ≤ 5 := by omega
  have HMM := Lib.hid hM
  obtain ⟨-, g2, k0⟩ := two_new w #[.bool n, .int .i64 10, .slice A k c, .int .i64 bh, .int .i64 0, .bool false] #[.bool false, .int .i64 0, .slice none 0 0, .int .i64 0, .int .i64 0, .bool false] 63 63
  obtain ⟨g1, -, -⟩ := two_new w #[.bool n, .int .i64 10, .slice A k c, .int .i64 bh, .int .i64 0, .bool false] #[.bool false, .int .i64 0, .slice none 0 0, .int .i64 0, .int .i64 0, .bool false] 63 63
  have G1 := Lib.hid g1
  have G2 := Lib.hid g2
  have K0 := Lib.hid k0
  clear g0 hS hl0e hL hb0 hM g1 g2 k0
  go_enter Tryz.func70, Tryz.ntmps70
  go_upto_region 4 with fail
  generalize hS1 : S.extract 1 L = S1
  have hS1' := F1.out S1 hS1.symm
  have q1 : S1.size = M := by rw [hS1']; exact sz1
  have hb1 : ∀ x ∈ [if neg then 45 else 43] ++ asc ds, x < 256 := by
    intro x hx
    simp at hx
    rcases hx with rfl | hx
    · split <;> decide
    · obtain ⟨d, h1, rfl⟩ := (by simpa [asc] using hx : ∃ d ∈ ds, 48 + d = x)
      have := hd d h1; omega
  have hp1 : 0 < S1.size := by omega
  have q2 : S1[0].toNat = if neg then 45 else 43 := by
    subst hS1'
    rw [txt_get hp1 hb1]; rfl
  have H1' := Lib.hid hS1'
  clear hS1 hS1' hb1 e0 hp0 hsz
  have key : ∀ S2 : ByteArray, S2 = txt (asc ds) → S2.size = ds.length ∧ ∀ i (h : i < S2.size), (S2[i]'h).toNat = 48 + ds.getD i 0 := by
    rintro S2 rfl
    refine ⟨by rw [txt_size]; simp [asc], fun i h => ?_⟩
    rw [txt_get h (fun x hx => by obtain ⟨d, h1, rfl⟩ := (by simpa [asc] using hx : ∃ d ∈ ds, 48 + d = x); have := hd d h1; omega)]
    have h' : i < ds.length := by rw [txt_size] at h; simpa [asc] using h
    rw [gd_lt (by simpa [asc] using h'), gd_lt h']; simp [asc]
  have KEY := Lib.hid key
  clear key
  cases neg
  · simp only [Bool.false_eq_true, if_false] at q2
    go_upto_region 7 with fail
    generalize hS2 : S1.extract 1 M = S2
    have hS2' := F2.out S2 (by rw [← H1'.out]; exact hS2.symm)
    obtain ⟨q3, q4⟩ := KEY.out S2 hS2'
    obtain ⟨D, hD⟩ : ∃ D, D = ds.length := ⟨_, rfl⟩
    rw [← hD] at q3 hl0 hl
    have Q4 := Lib.hid q4
    have HD := Lib.hid hD
    generalize (w.alloc (.cells #[.bool n, .int .i64 10, .slice A k c, .int .i64 bh, .int .i64 0, .bool false] 63)).alloc (.cells #[.bool false, .int .i64 0, .slice none 0 0, .int .i64 0, .int .i64 0, .bool false] 63) = w0 at G1 G2 K0 ⊢
    have c5 : w0.cell? ⟨w.heap.size, 5, none⟩ = some (.bool false) := G1.out.cell 5
    have td : ((D : Int) == 0) = false := beq_eq_false_iff_ne.2 (by omega)
    have td2 : ¬ (4 : Int) < D := by omega
    have td3 : decide (4 < D) = false := decide_eq_false (by omega)
    clear hS2 hS2' q4 hD q1 q2 hp1
    go_wp2_with fail
    go_loopw [8] (fun iv wr => ∃ i : Nat, iv = .int .i64 i ∧ i ≤ D ∧ Hid (Bk wr w.heap.size #[.bool n, .int .i64 10, .slice A k c, .int .i64 bh, .int .i64 (Nd (ds.take i) : Nat), .bool false]) ∧ Hid (Bk wr (w.heap.size + 1) #[.bool false, .int .i64 0, .slice none 0 0, .int .i64 0, .int .i64 0, .bool false]) ∧ Hid (Chg No w wr)) (fun iv _ => D - (intOf iv).toNat)
    case atStart => exact ⟨0, rfl, by omega, G1, G2, K0⟩
    case round =>
      obtain ⟨i, rfl, hi, B1, B2, KC⟩ := hrel
      by_cases hin : i < D
      · have hin2 : i < S2.size := by omega
        have q5 := Q4.out i hin2
        obtain ⟨d, hd'⟩ : ∃ d, d = ds.getD i 0 := ⟨_, rfl⟩
        have hd10 : d < 10 := by rw [hd']; exact getD_lt hd
        obtain ⟨y, hy⟩ : ∃ y, y = 48 + d := ⟨_, rfl⟩
        rw [← hd', ← hy] at q5
        have i1 : (i : Int) < D := by omega
        have i2 : ¬ (y : Int) < 48 := by omega
        have i3 : ¬ (57 : Int) < y := by omega
        have tb1 : decide (y < 48) = false := decide_eq_false (by omega)
        have tb2 : decide (57 < y) = false := decide_eq_false (by omega)
        have e2 : (y : Int) - 48 = (d : Int) := by omega
        obtain ⟨E, hE⟩ : ∃ E, E = Nd (ds.take i) := ⟨_, rfl⟩
        have hE4 : E < 10000 := by
          rw [hE]
          have h1 := Nd_lt (ds.take i) (fun x hx => hd x (List.mem_of_mem_take hx))
          have h2 : (ds.take i).length ≤ 4 := by rw [List.length_take]; have := HD.out; omega
          exact Nat.lt_of_lt_of_le h1 (Nat.pow_le_pow_right (by decide) h2)
        obtain ⟨F, hF⟩ : ∃ F, F = 10 * E + d := ⟨_, rfl⟩
        have hF2 : Nd (ds.take (i + 1)) = F := by rw [take_snoc ds (by have := HD.out; omega), Nd_snoc, ← hE, ← hd', hF]
        have e3 : (10 : Int) * (E : Int) + (d : Int) = (F : Int) := by omega
        rw [← hE] at B1
        have c4 : wr.cell? ⟨w.heap.size, 4, none⟩ = some (.int .i64 E) := B1.out.cell 4
        have f4 := B1.out.plain.free 4
        have HF := Lib.hid hF2
        clear hy hd' hE hF hF2
        have w1 : IntKind.i64.wrap (10 * (E : Int)) = 10 * (E : Int) := IntWalk.i64_in _ (by omega)
        have w2 : IntKind.u8.wrap ((y : Int) - 48) = (d : Int) := by rw [e2]; exact IntWalk.u8_in _ (by omega)
        have w3 : IntKind.i64.wrap (d : Int) = (d : Int) := IntWalk.i64_in _ (by omega)
        have w4 : IntKind.i64.wrap (10 * (E : Int) + (d : Int)) = (F : Int) := by rw [e3]; exact IntWalk.i64_in _ (by omega)
        go_wp2_with fail
        go_region
        go_wp2_with fail
        go_roundw
        case rel =>
          have kb := B1.out.set_chg (u := .int .i64 (E : Nat)) 4 (.int .i64 (F : Nat)) rfl (noWB_int _)
          have hB := B1.out.set 4 (.int .i64 (F : Nat))
          refine ⟨i + 1, by go_num, by omega, Lib.hid (by rw [HF.out]; exact hB), Lib.hid (B2.out.chg kb.drew (fun o (f : w.heap.size + 1 = w.heap.size) => by omega)), Lib.hid (KC.out.then kb.drew (fun z o hz f => absurd f (Nat.ne_of_lt hz)))⟩
        case measure => simp [intOf]; omega
      · obtain rfl : i = D := by omega
        have HT : Hid (Nd (ds.take i) = Nd ds) := Lib.hid (by rw [List.take_of_length_le (by have := HD.out; omega)])
        obtain ⟨E, hE⟩ : ∃ E, E = Nd (ds.take i) := ⟨_, rfl⟩
        have hE4 : E < 10000 := by
          rw [hE]
          have h1 := Nd_lt (ds.take i) (fun x hx => hd x (List.mem_of_mem_take hx))
          have h2 : (ds.take i).length ≤ 4 := by rw [List.length_take]; omega
          exact Nat.lt_of_lt_of_le h1 (Nat.pow_le_pow_right (by decide) h2)
        rw [← hE] at B1 HT
        have c0 : wr.cell? ⟨w.heap.size, 0, none⟩ = some (.bool n) := B1.out.cell 0
        have c1 : wr.cell? ⟨w.heap.size, 1, none⟩ = some (.int .i64 10) := B1.out.cell 1
        have c2 : wr.cell? ⟨w.heap.size, 2, none⟩ = some (.slice A k c) := B1.out.cell 2
        have c3 : wr.cell? ⟨w.heap.size, 3, none⟩ = some (.int .i64 bh) := B1.out.cell 3
        have c4 : wr.cell? ⟨w.heap.size, 4, none⟩ = some (.int .i64 E) := B1.out.cell 4
        have c5 : wr.cell? ⟨w.heap.size, 5, none⟩ = some (.bool false) := B1.out.cell 5
        have b0 : wr.cell? ⟨w.heap.size + 1, 0, none⟩ = some (.bool false) := B2.out.cell 0
        have b1 : wr.cell? ⟨w.heap.size + 1, 1, none⟩ = some (.int .i64 0) := B2.out.cell 1
        have b2 : wr.cell? ⟨w.heap.size + 1, 2, none⟩ = some (.slice none 0 0) := B2.out.cell 2
        have b3 : wr.cell? ⟨w.heap.size + 1, 3, none⟩ = some (.int .i64 0) := B2.out.cell 3
        have b4 : wr.cell? ⟨w.heap.size + 1, 4, none⟩ = some (.int .i64 0) := B2.out.cell 4
        have b5 : wr.cell? ⟨w.heap.size + 1, 5, none⟩ = some (.bool false) := B2.out.cell 5
        have f0 := B2.out.plain.free 0
        have f1 := B2.out.plain.free 1
        have f2 := B2.out.plain.free 2
        have f3 := B2.out.plain.free 3
        have f4 := B2.out.plain.free 4
        have f5 := B2.out.plain.free 5
        have ff4 := B1.out.plain.free 4
        clear hE
        go_wp2_with fail
        have ks := B2.out.st6_chg (noWB_bool _) (noWB_int _) (noWB_slice _ _ _) (noWB_int _) (noWB_int _) (noWB_bool _) (.bool n) (.int .i64 10) (.slice A k c) (.int .i64 bh) (.int .i64 E) (.bool false)
        refine bodyPost_ret (v := .tuple #[.agg #[.bool n, .int .i64 10, .slice A k c, .int .i64 bh, .int .i64 E, .bool false], .bool true]) ?_ rfl ⟨by rw [← HT.out] <;> rfl, KC.out.then ks (fun y o hy f => by have h : y = w.heap.size + 1 := f; omega)⟩
        have hres : Tryz.f70.results = #[.cell 4 63, .tmp 5] := rfl
        have hl := load63' _ _ _ _ _ _ _ _ _ _ (B2.out.st6 (.bool n) (.int .i64 10) (.slice A k c) (.int .i64 bh) (.int .i64 E) (.bool false))
        unfold st6 at hl
        simp [results, hres, asAddr]
        rw [hl]; rfl
  · simp only [if_true] at q2
    go_upto_region 7 with fail
    generalize hS2 : S1.extract 1 M = S2
    have hS2' := F2.out S2 (by rw [← H1'.out]; exact hS2.symm)
    obtain ⟨q3, q4⟩ := KEY.out S2 hS2'
    obtain ⟨D, hD⟩ : ∃ D, D = ds.length := ⟨_, rfl⟩
    rw [← hD] at q3 hl0 hl
    have Q4 := Lib.hid q4
    have HD := Lib.hid hD
    generalize (w.alloc (.cells #[.bool n, .int .i64 10, .slice A k c, .int .i64 bh, .int .i64 0, .bool false] 63)).alloc (.cells #[.bool false, .int .i64 0, .slice none 0 0, .int .i64 0, .int .i64 0, .bool false] 63) = w0 at G1 G2 K0 ⊢
    have c5 : w0.cell? ⟨w.heap.size, 5, none⟩ = some (.bool false) := G1.out.cell 5
    have td : ((D : Int) == 0) = false := beq_eq_false_iff_ne.2 (by omega)
    have td2 : ¬ (4 : Int) < D := by omega
    have td3 : decide (4 < D) = false := decide_eq_false (by omega)
    clear hS2 hS2' q4 hD q1 q2 hp1
    go_wp2_with fail
    go_loopw [8] (fun iv wr => ∃ i : Nat, iv = .int .i64 i ∧ i ≤ D ∧ Hid (Bk wr w.heap.size #[.bool n, .int .i64 10, .slice A k c, .int .i64 bh, .int .i64 (Nd (ds.take i) : Nat), .bool false]) ∧ Hid (Bk wr (w.heap.size + 1) #[.bool false, .int .i64 0, .slice none 0 0, .int .i64 0, .int .i64 0, .bool false]) ∧ Hid (Chg No w wr)) (fun iv _ => D - (intOf iv).toNat)
    case atStart => exact ⟨0, rfl, by omega, G1, G2, K0⟩
    case round =>
      obtain ⟨i, rfl, hi, B1, B2, KC⟩ := hrel
      by_cases hin : i < D
      · have hin2 : i < S2.size := by omega
        have q5 := Q4.out i hin2
        obtain ⟨d, hd'⟩ : ∃ d, d = ds.getD i 0 := ⟨_, rfl⟩
        have hd10 : d < 10 := by rw [hd']; exact getD_lt hd
        obtain ⟨y, hy⟩ : ∃ y, y = 48 + d := ⟨_, rfl⟩
        rw [← hd', ← hy] at q5
        have i1 : (i : Int) < D := by omega
        have i2 : ¬ (y : Int) < 48 := by omega
        have i3 : ¬ (57 : Int) < y := by omega
        have tb1 : decide (y < 48) = false := decide_eq_false (by omega)
        have tb2 : decide (57 < y) = false := decide_eq_false (by omega)
        have e2 : (y : Int) - 48 = (d : Int) := by omega
        obtain ⟨E, hE⟩ : ∃ E, E = Nd (ds.take i) := ⟨_, rfl⟩
        have hE4 : E < 10000 := by
          rw [hE]
          have h1 := Nd_lt (ds.take i) (fun x hx => hd x (List.mem_of_mem_take hx))
          have h2 : (ds.take i).length ≤ 4 := by rw [List.length_take]; have := HD.out; omega
          exact Nat.lt_of_lt_of_le h1 (Nat.pow_le_pow_right (by decide) h2)
        obtain ⟨F, hF⟩ : ∃ F, F = 10 * E + d := ⟨_, rfl⟩
        have hF2 : Nd (ds.take (i + 1)) = F := by rw [take_snoc ds (by have := HD.out; omega), Nd_snoc, ← hE, ← hd', hF]
        have e3 : (10 : Int) * (E : Int) + (d : Int) = (F : Int) := by omega
        rw [← hE] at B1
        have c4 : wr.cell? ⟨w.heap.size, 4, none⟩ = some (.int .i64 E) := B1.out.cell 4
        have f4 := B1.out.plain.free 4
        have HF := Lib.hid hF2
        clear hy hd' hE hF hF2
        have w1 : IntKind.i64.wrap (10 * (E : Int)) = 10 * (E : Int) := IntWalk.i64_in _ (by omega)
        have w2 : IntKind.u8.wrap ((y : Int) - 48) = (d : Int) := by rw [e2]; exact IntWalk.u8_in _ (by omega)
        have w3 : IntKind.i64.wrap (d : Int) = (d : Int) := IntWalk.i64_in _ (by omega)
        have w4 : IntKind.i64.wrap (10 * (E : Int) + (d : Int)) = (F : Int) := by rw [e3]; exact IntWalk.i64_in _ (by omega)
        go_wp2_with fail
        go_region
        go_wp2_with fail
        go_roundw
        case rel =>
          have kb := B1.out.set_chg (u := .int .i64 (E : Nat)) 4 (.int .i64 (F : Nat)) rfl (noWB_int _)
          have hB := B1.out.set 4 (.int .i64 (F : Nat))
          refine ⟨i + 1, by go_num, by omega, Lib.hid (by rw [HF.out]; exact hB), Lib.hid (B2.out.chg kb.drew (fun o (f : w.heap.size + 1 = w.heap.size) => by omega)), Lib.hid (KC.out.then kb.drew (fun z o hz f => absurd f (Nat.ne_of_lt hz)))⟩
        case measure => simp [intOf]; omega
      · obtain rfl : i = D := by omega
        have HT : Hid (Nd (ds.take i) = Nd ds) := Lib.hid (by rw [List.take_of_length_le (by have := HD.out; omega)])
        obtain ⟨E, hE⟩ : ∃ E, E = Nd (ds.take i) := ⟨_, rfl⟩
        have hE4 : E < 10000 := by
          rw [hE]
          have h1 := Nd_lt (ds.take i) (fun x hx => hd x (List.mem_of_mem_take hx))
          have h2 : (ds.take i).length ≤ 4 := by rw [List.length_take]; omega
          exact Nat.lt_of_lt_of_le h1 (Nat.pow_le_pow_right (by decide) h2)
        rw [← hE] at B1 HT
        have c0 : wr.cell? ⟨w.heap.size, 0, none⟩ = some (.bool n) := B1.out.cell 0
        have c1 : wr.cell? ⟨w.heap.size, 1, none⟩ = some (.int .i64 10) := B1.out.cell 1
        have c2 : wr.cell? ⟨w.heap.size, 2, none⟩ = some (.slice A k c) := B1.out.cell 2
        have c3 : wr.cell? ⟨w.heap.size, 3, none⟩ = some (.int .i64 bh) := B1.out.cell 3
        have c4 : wr.cell? ⟨w.heap.size, 4, none⟩ = some (.int .i64 E) := B1.out.cell 4
        have c5 : wr.cell? ⟨w.heap.size, 5, none⟩ = some (.bool false) := B1.out.cell 5
        have b0 : wr.cell? ⟨w.heap.size + 1, 0, none⟩ = some (.bool false) := B2.out.cell 0
        have b1 : wr.cell? ⟨w.heap.size + 1, 1, none⟩ = some (.int .i64 0) := B2.out.cell 1
        have b2 : wr.cell? ⟨w.heap.size + 1, 2, none⟩ = some (.slice none 0 0) := B2.out.cell 2
        have b3 : wr.cell? ⟨w.heap.size + 1, 3, none⟩ = some (.int .i64 0) := B2.out.cell 3
        have b4 : wr.cell? ⟨w.heap.size + 1, 4, none⟩ = some (.int .i64 0) := B2.out.cell 4
        have b5 : wr.cell? ⟨w.heap.size + 1, 5, none⟩ = some (.bool false) := B2.out.cell 5
        have f0 := B2.out.plain.free 0
        have f1 := B2.out.plain.free 1
        have f2 := B2.out.plain.free 2
        have f3 := B2.out.plain.free 3
        have f4 := B2.out.plain.free 4
        have f5 := B2.out.plain.free 5
        have ff4 := B1.out.plain.free 4
        clear hE
        have w9 : IntKind.i64.wrap (-(E : Int)) = -(E : Int) := IntWalk.i64_in _ (by omega)
        have ka := B1.out.set_chg (u := .int .i64 (E : Nat)) 4 (.int .i64 (-(E : Int))) rfl (noWB_int _)
        have hB := B1.out.set 4 (.int .i64 (-(E : Int)))
        have hB2 := B2.out.chg ka (fun o (f : w.heap.size + 1 = w.heap.size) => by omega)
        have HB2 := Lib.hid hB2
        have KA := Lib.hid (KC.out.then ka (fun z o hz f => absurd f (Nat.ne_of_lt hz)))
        clear ka hB hB2
        go_wp2_with fail
        have ks := HB2.out.st6_chg (noWB_bool _) (noWB_int _) (noWB_slice _ _ _) (noWB_int _) (noWB_int _) (noWB_bool _) (.bool n) (.int .i64 10) (.slice A k c) (.int .i64 bh) (.int .i64 (-(E : Int))) (.bool false)
        refine bodyPost_ret (v := .tuple #[.agg #[.bool n, .int .i64 10, .slice A k c, .int .i64 bh, .int .i64 (-(E : Int)), .bool false], .bool true]) ?_ rfl ⟨by rw [← HT.out] <;> rfl, KA.out.then ks (fun y o hy f => by have h : y = w.heap.size + 1 := f; omega)⟩
        have hres : Tryz.f70.results = #[.cell 4 63, .tmp 5] := rfl
        have hl := load63' _ _ _ _ _ _ _ _ _ _ (HB2.out.st6 (.bool n) (.int .i64 10) (.slice A k c) (.int .i64 bh) (.int .i64 (-(E : Int))) (.bool false))
        unfold st6 at hl
        simp [results, hres, asAddr]
        rw [hl]; rfl
/-- The mantissa of a text of format e: a figure, a point, the others. -/
def mtx (fs : List Nat) (k : Nat) : List Nat := asc (fs.take 1) ++ if 0 < k then 46 :: asc (fs.drop 1) else []
/-- What stands behind it. -/
def ptx (neg : Bool) (de : List Nat) : List Nat := [101] ++ [if neg then 45 else 43] ++ asc de
/-- Where the figures end. -/
def qAt (k : Nat) : Nat := if 0 < k then k + 2 else 1
theorem mtx_len {fs : List Nat} {k : Nat} (h : fs.length = k + 1) : (mtx fs k).length = qAt k := by
  unfold mtx qAt
  by_cases hk : 0 < k
  · rw [if_pos hk, if_pos hk]; simp [asc]; omega
  · rw [if_neg hk, if_neg hk]; simp [asc]; omega
theorem asc_getD (l : List Nat) {i : Nat} (h : i < l.length) : (asc l).getD i 0 = 48 + l.getD i 0 := by
  rw [gd_lt (by simpa [asc] using h), gd_lt h]; simp [asc]
theorem getD_app_lt {l m : List Nat} {i : Nat} (h : i < l.length) : (l ++ m).getD i 0 = l.getD i 0 := by
  rw [gd_lt (by simp; omega), gd_lt h, List.getElem_append_left h]
theorem getD_app_ge {l m : List Nat} {i : Nat} (h : l.length ≤ i) : (l ++ m).getD i 0 = m.getD (i - l.length) 0 := by
  rcases Nat.lt_or_ge i (l ++ m).length with h2 | h2
  · rw [gd_lt h2, List.getElem_append_right h, gd_lt (by simp at h2; omega)]
  · rw [gd_ge h2, gd_ge (by simp at h2; omega)]
theorem getD_drop1 (l : List Nat) (i : Nat) : (l.drop 1).getD i 0 = l.getD (i + 1) 0 := by
  rcases Nat.lt_or_ge (i + 1) l.length with h | h
  · rw [gd_lt h, gd_lt (by simp; omega)]; simp [Nat.add_comm]
  · rw [gd_ge h, gd_ge (by simp; omega)]
theorem mtx_zero {fs : List Nat} {k : Nat} (h : fs.length = k + 1) (r : List Nat) : (mtx fs k ++ r).getD 0 0 = 48 + fs.getD 0 0 := by
  rw [getD_app_lt (by rw [mtx_len h]; unfold qAt; split <;> omega)]
  unfold mtx
  have h1 : (asc (fs.take 1)).length = 1 := by simp [asc]; omega
  rw [getD_app_lt (by omega), asc_getD _ (by simp; omega), gd_lt (by simp; omega), List.getElem_take, ← gd_lt (by omega)]
theorem mtx_point {fs : List Nat} {k : Nat} (h : fs.length = k + 1) (hk : 0 < k) (r : List Nat) : (mtx fs k ++ r).getD 1 0 = 46 := by
  rw [getD_app_lt (by rw [mtx_len h]; unfold qAt; rw [if_pos hk]; omega)]
  unfold mtx
  have h1 : (asc (fs.take 1)).length = 1 := by simp [asc]; omega
  rw [getD_app_ge (by omega), if_pos hk, h1]; rfl
theorem mtx_fig {fs : List Nat} {k j : Nat} (h : fs.length = k + 1) (hj : 0 < j) (hjk : j ≤ k) (r : List Nat) : (mtx fs k ++ r).getD (j + 1) 0 = 48 + fs.getD j 0 := by
  rw [getD_app_lt (by rw [mtx_len h]; unfold qAt; rw [if_pos (by omega)]; omega)]
  unfold mtx
  have h1 : (asc (fs.take 1)).length = 1 := by simp [asc]; omega
  rw [getD_app_ge (by omega), if_pos (by omega), h1, show j + 1 - 1 = (j - 1) + 1 by omega]
  show (asc (fs.drop 1)).getD (j - 1) 0 = _
  rw [asc_getD _ (by simp; omega), getD_drop1]; congr 2; omega
theorem mtx_end {fs : List Nat} {k : Nat} (h : fs.length = k + 1) (neg : Bool) (de : List Nat) : (mtx fs k ++ ptx neg de).getD (qAt k) 0 = 101 := by
  rw [getD_app_ge (by rw [mtx_len h]; exact Nat.le_refl _), mtx_len h, Nat.sub_self]; rfl
theorem mtx_lt {fs de : List Nat} {k : Nat} {neg : Bool} (hf : ∀ d ∈ fs, d < 10) (hd : ∀ d ∈ de, d < 10) : ∀ x ∈ mtx fs k ++ ptx neg de, x < 256 := by
  have ha : ∀ l : List Nat, (∀ d ∈ l, d < 10) → ∀ x ∈ asc l, x < 256 := fun l hl x hx => by
    obtain ⟨d, h1, rfl⟩ := (by simpa [asc] using hx : ∃ d ∈ l, 48 + d = x)
    have := hl d h1; omega
  intro x hx
  rcases List.mem_append.1 hx with h | h
  · unfold mtx at h
    rcases List.mem_append.1 h with h | h
    · exact ha _ (fun d hd => hf d (List.mem_of_mem_take hd)) x h
    · split at h
      · rcases List.mem_cons.1 h with rfl | h
        · decide
        · exact ha _ (fun d hd => hf d (List.mem_of_mem_drop hd)) x h
      · simp at h
  · unfold ptx at h
    rcases List.mem_append.1 h with h | h
    · simp at h
      rcases h with rfl | rfl
      · decide
      · split <;> decide
    · exact ha _ hd x h
/-- What the loop of Read keeps. -/
def RdInv (k a cn bh : Nat) (p : Bool) : Prop := cn = (if a ≤ 1 then a else a - 1) ∧ bh = a - 2 ∧ p = decide (2 ≤ a) ∧ a ≤ qAt k
/-- A number that lies outside two blocks. -/
def OutB (m : Value) (b : Nat) : Prop := ∀ ad x y, m = .slice (some ad) x y → x = 0 ∨ ad.block ≠ b ∧ ad.block ≠ b + 1
/-- What Read keeps in memory. -/
def RdM (w wr : World) (n : Bool) (fs : List Nat) (cn bh : Nat) (mA : Option Addr) (mn mc : Nat) : Prop :=
  Bk wr (w.heap.size + 1) #[.bool n, .int .i64 10, .slice mA mn mc, .int .i64 bh, .int .i64 0, .bool false] ∧ Bk wr w.heap.size #[.bool false, .int .i64 0, .slice none 0 0, .int .i64 0, .int .i64 0, .bool false] ∧
  Sn wr (.slice mA mn mc) (Nd (fs.take cn)) ∧ OutB (.slice mA mn mc) w.heap.size ∧ Chg No w wr
theorem RdM.new (w : World) (n : Bool) (fs : List Nat) : RdM w ((w.alloc (.cells #[.bool false, .int .i64 0, .slice none 0 0, .int .i64 0, .int .i64 0, .bool false] 63)).alloc (.cells #[.bool n, .int .i64 10, .slice none 0 0, .int .i64 0, .int .i64 0, .bool false] 63)) n fs 0 0 none 0 0 := by
  obtain ⟨g1, g2, k⟩ := two_new w #[.bool false, .int .i64 0, .slice none 0 0, .int .i64 0, .int .i64 0, .bool false] #[.bool n, .int .i64 10, .slice none 0 0, .int .i64 0, .int .i64 0, .bool false] 63 63
  exact ⟨g2, g1, by have := Sn.nil (((w.alloc (.cells #[.bool false, .int .i64 0, .slice none 0 0, .int .i64 0, .int .i64 0, .bool false] 63)).alloc (.cells #[.bool n, .int .i64 10, .slice none 0 0, .int .i64 0, .int .i64 0, .bool false] 63))) none 0; simpa [Nd] using this, fun ad x y h => (by cases h), k⟩
set_option maxRecDepth 100000 in
set_option maxHeartbeats 8000000 in
theorem spec_Read (n : Bool) (fs de : List Nat) (neg : Bool) (k : Nat) (w : World) (hf : ∀ d ∈ fs, d < 10) (hd : ∀ d ∈ de, d < 10) (hk : fs.length = k + 1) (hkb : k ≤ 150) (hl0 : 0 < de.length) (hl : de.length ≤ 4) :
    Calls Tryz.prog 31 #[.string (txt (sgn n ++ (mtx fs k ++ ptx neg de))), .int .i64 10] w fun e w' => ∃ A m c, e = .returned (.tuple #[.agg #[.bool n, .int .i64 10, .slice A m c, .int .i64 k, .int .i64 (if neg then -(Nd de : Int) else Nd de), .bool false], .bool true]) ∧ Sn w' (.slice A m c) (Nd fs) ∧ Chg No w w' := by
  obtain ⟨ex, hex2⟩ : ∃ ex : Int, ex = (if neg then -(Nd de : Int) else Nd de) := ⟨_, rfl⟩
  rw [← hex2]
  have HEX := Lib.hid hex2
  clear hex2
  obtain ⟨bl, hbl⟩ : ∃ l, l = mtx fs k ++ ptx neg de := ⟨_, rfl⟩
  have hb256 : ∀ x ∈ bl, x < 256 := by rw [hbl]; exact mtx_lt hf hd
  obtain ⟨q, hq⟩ : ∃ q, q = qAt k := ⟨_, rfl⟩
  obtain ⟨Z, hZ⟩ : ∃ Z, Z = q + 2 + de.length := ⟨_, rfl⟩
  have hZl : bl.length = Z := by rw [hbl, List.length_append, mtx_len hk, ← hq, hZ]; simp [ptx, asc]; omega
  have hq0 : 0 < q := by rw [hq]; unfold qAt; split <;> omega
  have hqb : q ≤ 152 := by rw [hq]; unfold qAt; split <;> omega
  have hZ1 : q + 2 < Z := by omega
  have hZ2 : Z ≤ 160 := by omega
  -- the text behind the sign
  have KEY : Hid (∀ S : ByteArray, S = txt bl → S.size = Z ∧ (∀ i (h : i < S.size), (S[i]'h).toNat = bl.getD i 0) ∧ S.extract q Z = txt (ptx neg de)) := Lib.hid (by
    rintro S rfl
    refine ⟨by rw [txt_size, hZl], fun i h => txt_get h hb256, ?_⟩
    rw [txt_extract, List.take_of_length_le (by omega), hbl, List.drop_left' (by rw [mtx_len hk, hq])])
  have BL0 : bl.getD 0 0 = 48 + fs.getD 0 0 := by rw [hbl]; exact mtx_zero hk _
  have BL1 : Hid (0 < k → bl.getD 1 0 = 46) := Lib.hid (fun h => by rw [hbl]; exact mtx_point hk h _)
  have BL2 : Hid (∀ j, 0 < j → j ≤ k → bl.getD (j + 1) 0 = 48 + fs.getD j 0) := Lib.hid (fun j h1 h2 => by rw [hbl]; exact mtx_fig hk h1 h2 _)
  have BL3 : Hid (bl.getD q 0 = 101) := Lib.hid (by rw [hbl, hq]; exact mtx_end hk neg de)
  rw [← hbl]
  have HF := Lib.hid (And.intro hf (And.intro hd (And.intro hk (And.intro hl0 hl))))
  have HQ := Lib.hid (And.intro hbl (And.intro hq hZ))
  have M0 := Lib.hid (RdM.new w n fs)
  have hd0 : fs.getD 0 0 < 10 := getD_lt hf
  obtain ⟨y0, hy0⟩ : ∃ y, y = bl.getD 0 0 := ⟨_, rfl⟩
  rw [← hy0] at BL0
  have hyb : 48 ≤ y0 ∧ y0 ≤ 57 := by omega
  have HY := Lib.hid (And.intro BL0 hy0)
  clear hf hd hk hbl hq hZ BL0 hd0 hl0 hl
  have first : ∀ S : ByteArray, S = txt bl → ∀ h : 0 < S.size, (S[0]'h).toNat = y0 := fun S hS h => by rw [(KEY.out S hS).2.1 0 h]; exact hy0.symm
  have sgl : ∀ S0 : ByteArray, S0 = txt (45 :: bl) → S0.size = Z + 1 ∧ (∀ h : 0 < S0.size, (S0[0]'h).toNat = 45) ∧ S0.extract 1 (Z + 1) = txt bl := by
    rintro S0 rfl
    refine ⟨by rw [txt_size]; simp [hZl], fun h => ?_, ?_⟩
    · rw [txt_get h (by intro x hx; rcases List.mem_cons.1 hx with rfl | h; decide; exact hb256 x h)]; rfl
    · rw [txt_extract, List.take_of_length_le (by simp [hZl])]; rfl
  have FIRST := Lib.hid first
  have SGL := Lib.hid sgl
  clear first sgl hb256 hZl hy0
  obtain ⟨S0, hS0⟩ : ∃ S0, S0 = txt (sgn n ++ bl) := ⟨_, rfl⟩
  obtain ⟨Z0, hZ0⟩ : ∃ Z0, Z0 = S0.size := ⟨_, rfl⟩
  have hZ0b : 0 < Z0 ∧ Z0 ≤ 161 := by
    rw [hZ0, hS0]
    cases n
    · rw [(KEY.out (txt (sgn false ++ bl)) rfl).1]; omega
    · rw [(SGL.out (txt (sgn true ++ bl)) rfl).1]; omega
  have hp : 0 < S0.size := by omega
  obtain ⟨y', hy'⟩ : ∃ y', y' = (S0[0]'hp).toNat := ⟨_, rfl⟩
  have hyn : y' = if n then 45 else y0 := by
    rw [hy']
    cases n
    · exact FIRST.out S0 hS0 hp
    · exact (SGL.out S0 hS0).2.1 hp
  have t1 : ((y' : Int) == 45) = n := by
    rw [hyn]; cases n
    · simp; omega
    · rfl
  have t2 : ((y' : Int) == 43) = false := by
    rw [hyn]; cases n
    · simp; omega
    · rfl
  have e0 : (S0[0]'hp).toNat = y' := hy'.symm
  have e1 : S0.size = Z0 := hZ0.symm
  rw [← hS0]
  have hZ0p := hZ0b.1
  have hZ0q := hZ0b.2
  have FIN : Hid (∀ S, (n = true → S = S0.extract 1 Z0) → (n = false → S = S0) → S = txt bl) := Lib.hid (by
    intro S h1 h2
    cases n
    · rw [h2 rfl, hS0]; rfl
    · rw [h1 rfl, hZ0, (SGL.out S0 hS0).1]; exact (SGL.out S0 hS0).2.2)
  clear hS0 hZ0 hZ0b hyn hy'
  go_enter Tryz.func31, Tryz.ntmps31
  go_upto_region 2 with fail
  go_cut [24] (fun v wx => v = .bool n ∧ wx = ((w.alloc (.cells #[.bool false, .int .i64 0, .slice none 0 0, .int .i64 0, .int .i64 0, .bool false] 63)).alloc (.cells #[.bool false, .int .i64 10, .slice none 0 0, .int .i64 0, .int .i64 0, .bool false] 63)))
  case first =>
    cases n
    · go_wp2_with fail
      go_meet
      exact ⟨rfl, rfl⟩
    · go_wp2_with fail
      go_meet
      exact ⟨rfl, rfl⟩
  case rest =>
    obtain ⟨rfl, rfl⟩ := hcut
    go_upto_if 24 with fail
    go_cut [0] (fun sv wx => ∃ S, sv = .string S ∧ Hid (S = txt bl) ∧ wx = ((w.alloc (.cells #[.bool false, .int .i64 0, .slice none 0 0, .int .i64 0, .int .i64 0, .bool false] 63)).alloc (.cells #[.bool n, .int .i64 10, .slice none 0 0, .int .i64 0, .int .i64 0, .bool false] 63)))
    case first =>
      cases n
      · go_wp2_with fail
        go_meet
        exact ⟨S0, rfl, Lib.hid (FIN.out S0 (by simp) (fun _ => rfl)), rfl⟩
      · go_wp2_with fail
        go_meet
        exact ⟨S0.extract 1 Z0, rfl, Lib.hid (FIN.out _ (fun _ => rfl) (by simp)), rfl⟩
    case rest =>
      obtain ⟨S, rfl, HS, rfl⟩ := hcut
      generalize ((w.alloc (.cells #[.bool false, .int .i64 0, .slice none 0 0, .int .i64 0, .int .i64 0, .bool false] 63)).alloc (.cells #[.bool n, .int .i64 10, .slice none 0 0, .int .i64 0, .int .i64 0, .bool false] 63)) = w0 at M0 ⊢
      have hSz := (KEY.out S HS.out).1
      clear hp e0 e1 hZ0p hZ0q t1 t2 FIN FIRST SGL
      go_wp2_with fail
      go_loopw [7, 8, 9] (fun nv pv av wr => ∃ (a cn bh : Nat) (p : Bool) (mA : Option Addr) (mn mc : Nat), nv = .int .i64 cn ∧ pv = .bool p ∧ av = .int .i64 a ∧ Hid (RdInv k a cn bh p) ∧ a ≤ q ∧ Hid (RdM w wr n fs cn bh mA mn mc)) (fun _ _ av _ => Z - (intOf av).toNat)
      case atStart => exact ⟨0, 0, 0, false, none, 0, 0, rfl, rfl, rfl, Lib.hid ⟨rfl, rfl, rfl, Nat.zero_le _⟩, Nat.zero_le _, M0⟩
      case round =>
        obtain ⟨a, cn, bh, p, mA, mn, mc, rfl, rfl, rfl, hI, haq, hM⟩ := hrel
        obtain ⟨i1, i2, i3, -⟩ := hI.out
        by_cases haq' : a = q
        · subst haq'
          have hlt : a < S.size := by omega
          have e0 : (S[a]'hlt).toNat = 101 := by rw [(KEY.out S HS.out).2.1 a hlt]; exact BL3.out
          have hcn : cn = k + 1 := by
            have := HQ.out.2.1
            unfold qAt at this
            rw [i1]
            by_cases hk : 0 < k
            · rw [if_pos hk] at this; rw [if_neg (by omega)]; omega
            · rw [if_neg hk] at this; rw [if_pos (by omega)]; omega
          have hbh : bh = k := by
            have := HQ.out.2.1
            unfold qAt at this
            rw [i2]
            by_cases hk : 0 < k
            · rw [if_pos hk] at this; omega
            · rw [if_neg hk] at this; omega
          have hex : S.extract a Z = txt (ptx neg de) := (KEY.out S HS.out).2.2
          have HFg : Hid (∀ W, Calls Tryz.prog 69 #[.int .u8 101, .int .i64 10] W fun e w' => e = .returned (.int .i64 (-1)) ∧ w' = W) := Lib.hid fun W => (spec_figure_no 101 W (.inr rfl)).mono fun _ _ ⟨h1, h2⟩ => ⟨h1, h2.symm⟩
          subst hcn
          subst hbh
          have tb1 : decide ((a : Int) < (Z : Int)) = true := decide_eq_true (by omega)
          have tb0 : decide (a < Z) = true := decide_eq_true (by omega)
          have ib : (a : Int) < (Z : Int) := by omega
          have c1 : wr.cell? ⟨w.heap.size + 1, 1, none⟩ = some (.int .i64 10) := hM.out.1.cell 1
          clear i1 i2 i3 hI
          go_wp2_with fail
          go_quiet ((go_at_call 69; exact Calls.quiet_of_same (HFg.out _)))
          have hM2 : RdM w (wr.drewN nq) n fs (bh + 1) bh mA mn mc := ⟨hM.out.1.chg ((Chg.refl No wr).drewN nq) (fun _ f => f), hM.out.2.1.chg ((Chg.refl No wr).drewN nq) (fun _ f => f), hM.out.2.2.1.chg ((Chg.refl No wr).drewN nq), hM.out.2.2.2.1, hM.out.2.2.2.2.drewN nq⟩
          have HM2 := Lib.hid hM2
          clear c1 hM2
          generalize wr.drewN nq = w2 at HM2 ⊢
          have tz : ((((bh + 1 : Nat) : Int)) == 0) = false := beq_eq_false_iff_ne.2 (by omega)
          have tq : ((a : Int) == (Z : Int)) = false := beq_eq_false_iff_ne.2 (by omega)
          have ic : (a : Int) ≤ (Z : Int) := by omega
          go_wp2_with fail
          have H70 : Hid (∀ W, Calls Tryz.prog 70 #[.agg #[.bool n, .int .i64 10, .slice mA mn mc, .int .i64 bh, .int .i64 0, .bool false], .string (S.extract a Z)] W fun e w' => e = .returned (.tuple #[.agg #[.bool n, .int .i64 10, .slice mA mn mc, .int .i64 bh, .int .i64 ex, .bool false], .bool true]) ∧ Chg No W w') := Lib.hid fun W => by
            rw [hex, HEX.out]
            exact spec_exponent n mA mn mc bh neg de W HF.out.2.1 HF.out.2.2.2.1 HF.out.2.2.2.2
          obtain ⟨g1, g2, g3, g4, g5⟩ := HM2.out
          have HK1 : Hid (∀ W, Chg No w2 W → W.cell? ⟨w.heap.size + 1, 0, none⟩ = some (.bool n) ∧ W.cell? ⟨w.heap.size + 1, 1, none⟩ = some (.int .i64 10) ∧ W.cell? ⟨w.heap.size + 1, 2, none⟩ = some (.slice mA mn mc) ∧ W.cell? ⟨w.heap.size + 1, 3, none⟩ = some (.int .i64 bh) ∧ W.cell? ⟨w.heap.size + 1, 4, none⟩ = some (.int .i64 0) ∧ W.cell? ⟨w.heap.size + 1, 5, none⟩ = some (.bool false)) :=
            Lib.hid fun W hW => ⟨(g1.chg hW (fun _ f => f)).cell 0, (g1.chg hW (fun _ f => f)).cell 1, (g1.chg hW (fun _ f => f)).cell 2, (g1.chg hW (fun _ f => f)).cell 3, (g1.chg hW (fun _ f => f)).cell 4, (g1.chg hW (fun _ f => f)).cell 5⟩
          have HG2 := Lib.hid g2
          clear hex g1 g2 g3 g4 g5 e0 tz tq
          go_region_held3 (fun W => W.cell? ⟨w.heap.size + 1, 0, none⟩ = some (.bool n) ∧ W.cell? ⟨w.heap.size + 1, 1, none⟩ = some (.int .i64 10) ∧ W.cell? ⟨w.heap.size + 1, 2, none⟩ = some (.slice mA mn mc) ∧ W.cell? ⟨w.heap.size + 1, 3, none⟩ = some (.int .i64 bh) ∧ W.cell? ⟨w.heap.size + 1, 4, none⟩ = some (.int .i64 0) ∧ W.cell? ⟨w.heap.size + 1, 5, none⟩ = some (.bool false)) (first | (obtain ⟨k0, k1, k2, k3, k4, k5⟩ := hS3; refine ⟨?_, ?_, ?_, ?_, ?_, ?_⟩ <;> (rw [cell_setCell_ne _ _ _ _ _ _ (.inl (by omega)), cell_setCell_ne _ _ _ _ _ _ (.inl (by omega)), cell_setCell_ne _ _ _ _ _ _ (.inl (by omega)), cell_setCell_ne _ _ _ _ _ _ (.inl (by omega)), cell_setCell_ne _ _ _ _ _ _ (.inl (by omega)), cell_setCell_ne _ _ _ _ _ _ (.inl (by omega))]; assumption)) | assumption | exact HK1.out _ (Chg.refl No w2).drew) (first
            | (go_at_call 70; (with_reducible refine (H70.out _).mono ?_); rintro e3 w3 ⟨rfl, hk3⟩; have kk3 := (Chg.refl No w2).drew.then hk3 (fun _ _ _ f => f); have hS3 := HK1.out w3 kk3; have G3 := Lib.hid (HG2.out.chg kk3 (fun _ f => f)); have b0 : w3.cell? ⟨w.heap.size, 0, none⟩ = some (.bool false) := G3.out.cell 0; have b1 : w3.cell? ⟨w.heap.size, 1, none⟩ = some (.int .i64 0) := G3.out.cell 1; have b2 : w3.cell? ⟨w.heap.size, 2, none⟩ = some (.slice none 0 0) := G3.out.cell 2; have b3 : w3.cell? ⟨w.heap.size, 3, none⟩ = some (.int .i64 0) := G3.out.cell 3; have b4 : w3.cell? ⟨w.heap.size, 4, none⟩ = some (.int .i64 0) := G3.out.cell 4; have b5 : w3.cell? ⟨w.heap.size, 5, none⟩ = some (.bool false) := G3.out.cell 5; have f0 := G3.out.plain.free 0; have f1 := G3.out.plain.free 1; have f2 := G3.out.plain.free 2; have f3 := G3.out.plain.free 3; have f4 := G3.out.plain.free 4; have f5 := G3.out.plain.free 5; have K3 := Lib.hid kk3; clear hk3 kk3))
          all_goals
            go_wp2_with fail
            have ks := G3.out.st6_chg (noWB_bool _) (noWB_int _) (noWB_slice _ _ _) (noWB_int _) (noWB_int _) (noWB_bool _) (.bool n) (.int .i64 10) (.slice mA mn mc) (.int .i64 bh) (.int .i64 ex) (.bool false)
            refine bodyPost_ret (v := .tuple #[.agg #[.bool n, .int .i64 10, .slice mA mn mc, .int .i64 bh, .int .i64 ex, .bool false], .bool true]) ?_ rfl ⟨mA, mn, mc, rfl, ?_, (HM2.out.2.2.2.2.then K3.out (fun _ _ _ f => f)).then ks (fun y o hy f => absurd f (Nat.ne_of_lt hy))⟩
            · have hres : Tryz.f31.results = #[.cell 4 63, .tmp 5] := rfl
              have hl := load63' _ _ _ _ _ _ _ _ _ _ (G3.out.st6 (.bool n) (.int .i64 10) (.slice mA mn mc) (.int .i64 bh) (.int .i64 ex) (.bool false))
              unfold st6 at hl
              simp [results, hres, asAddr]
              rw [hl]; rfl
            · have hs := (HM2.out.2.2.1.chg K3.out).other ks (fun ad x y e => (HM2.out.2.2.2.1 ad x y e).imp id (fun h => h.1))
              rw [List.take_of_length_le (by have := HF.out.2.2.1; omega)] at hs
              exact hs
        · by_cases ha1 : a = 1
          · subst ha1
            have hk0 : 0 < k := by
              have := HQ.out.2.1
              unfold qAt at this
              rcases Nat.eq_zero_or_pos k with h | h
              · rw [if_neg (by omega)] at this; omega
              · exact h
            have hlt : 1 < S.size := by omega
            have e0 : (S[1]'hlt).toNat = 46 := by rw [(KEY.out S HS.out).2.1 1 hlt]; exact BL1.out hk0
            obtain rfl : cn = 1 := i1
            obtain rfl : bh = 0 := i2
            obtain rfl : p = false := i3
            have HFg : Hid (∀ W, Calls Tryz.prog 69 #[.int .u8 46, .int .i64 10] W fun e w' => e = .returned (.int .i64 (-1)) ∧ w' = W) := Lib.hid fun W => (spec_figure_no 46 W (.inl rfl)).mono fun _ _ ⟨h1, h2⟩ => ⟨h1, h2.symm⟩
            have tb1 : decide ((1 : Int) < (Z : Int)) = true := decide_eq_true (by omega)
            have tb0 : decide (1 < Z) = true := decide_eq_true (by omega)
            have ib : (1 : Int) < (Z : Int) := by omega
            have c1 : wr.cell? ⟨w.heap.size + 1, 1, none⟩ = some (.int .i64 10) := hM.out.1.cell 1
            have hq2 : 2 ≤ q := by omega
            clear hI
            go_wp2_with fail
            go_quiet ((go_at_call 69; exact Calls.quiet_of_same (HFg.out _)))
            go_wp2_with fail
            go_roundw
            case rel =>
              exact ⟨2, 1, 0, true, mA, mn, mc, rfl, rfl, rfl, Lib.hid ⟨by simp, by simp, by simp, by rw [← HQ.out.2.1]; exact hq2⟩, hq2, Lib.hid ⟨hM.out.1.chg ((Chg.refl No wr).drewN _) (fun _ f => f), hM.out.2.1.chg ((Chg.refl No wr).drewN _) (fun _ f => f), hM.out.2.2.1.chg ((Chg.refl No wr).drewN _), hM.out.2.2.2.1, hM.out.2.2.2.2.drewN _⟩⟩
            case measure => simp [intOf]; omega
          · have haq2 : a < q := by omega
            obtain ⟨d, hd⟩ : ∃ d, d = fs.getD cn 0 := ⟨_, rfl⟩
            have hd10 : d < 10 := by rw [hd]; exact getD_lt HF.out.1
            have hqk := HQ.out.2.1
            have hcnk : cn ≤ k := by
              unfold qAt at hqk
              rw [i1]
              by_cases hk : 0 < k
              · rw [if_pos hk] at hqk; split <;> omega
              · rw [if_neg hk] at hqk; split <;> omega
            have hlt : a < S.size := by omega
            obtain ⟨y, hy⟩ : ∃ y, y = 48 + d := ⟨_, rfl⟩
            have e0 : (S[a]'hlt).toNat = y := by
              rw [(KEY.out S HS.out).2.1 a hlt, hy, hd]
              by_cases ha0 : a = 0
              · subst ha0
                obtain rfl : cn = 0 := i1
                rw [← HY.out.2]; exact HY.out.1
              · have hcn : cn = a - 1 := by rw [i1, if_neg (by omega)]
                rw [show a = cn + 1 by omega]
                exact BL2.out cn (by omega) hcnk
            have HFg : Hid (∀ W, Calls Tryz.prog 69 #[.int .u8 y, .int .i64 10] W fun e w' => e = .returned (.int .i64 d) ∧ w' = W) := Lib.hid fun W => (spec_figure_dig d y W hd10 hy).mono fun _ _ ⟨h1, h2⟩ => ⟨h1, h2.symm⟩
            have tb1 : decide ((a : Int) < (Z : Int)) = true := decide_eq_true (by omega)
            have tb0 : decide (a < Z) = true := decide_eq_true (by omega)
            have ib : (a : Int) < (Z : Int) := by omega
            have i0d : (0 : Int) ≤ d := by omega
            have tb2 : decide ((0 : Int) ≤ (d : Int)) = true := decide_eq_true (by omega)
            have t46 : ((y : Int) == 46) = false := beq_eq_false_iff_ne.2 (by omega)
            have c1 : wr.cell? ⟨w.heap.size + 1, 1, none⟩ = some (.int .i64 10) := hM.out.1.cell 1
            have HYD := Lib.hid (And.intro hd (And.intro hy (And.intro i1 (And.intro i2 i3))))
            clear hd hy i1 i2 i3 hI hqk
            go_wp2_with fail
            go_quiet ((go_at_call 69; exact Calls.quiet_of_same (HFg.out _)))
            have hM2 : RdM w (wr.drewN nq) n fs cn bh mA mn mc := ⟨hM.out.1.chg ((Chg.refl No wr).drewN nq) (fun _ f => f), hM.out.2.1.chg ((Chg.refl No wr).drewN nq) (fun _ f => f), hM.out.2.2.1.chg ((Chg.refl No wr).drewN nq), hM.out.2.2.2.1, hM.out.2.2.2.2.drewN nq⟩
            have HM2 := Lib.hid hM2
            clear c1 hM2 hM
            generalize wr.drewN nq = w2 at HM2 ⊢
            go_wp2_with fail
            go_upto_region 14 with fail
            go_cut [6] (fun v wx => v = .pointer (some ⟨w.heap.size + 1, 0, none⟩) ∧ ∃ mA mn mc, Hid (RdM w wx n fs (cn + 1) bh mA mn mc))
            case first =>
              obtain ⟨g1, g2, g3, g4, g5⟩ := HM2.out
              have HKP : Hid (∀ W, Chg No w2 W → W.cell? ⟨w.heap.size + 1, 1, none⟩ = some (.int .i64 10) ∧ W.cell? ⟨w.heap.size + 1, 2, none⟩ = some (.slice mA mn mc)) :=
                Lib.hid fun W hW => ⟨(g1.chg hW (fun _ f => f)).cell 1, (g1.chg hW (fun _ f => f)).cell 2⟩
              have H30 : Hid (∀ W, Calls Tryz.prog 30 #[.int .i64 10] W (SnOut 10 W)) := Lib.hid fun W => spec_Small 10 W (by decide)
              have H30d : Hid (∀ W, Calls Tryz.prog 30 #[.int .i64 d] W (SnOut d W)) := Lib.hid fun W => spec_Small d W (by omega)
              have hNd : Nd (fs.take cn) < 65536 ^ 200 := Nat.lt_of_lt_of_le (Nd_lt _ (fun x hx => HF.out.1 x (List.mem_of_mem_take hx))) (spow (by decide) 200 (by rw [List.length_take]; omega))
              have HMl : Hid (∀ W r, Chg No w2 W → Sn W r 10 → Calls Tryz.prog 34 #[.slice mA mn mc, r] W (SnOut (Nd (fs.take cn) * 10) W)) := Lib.hid fun W r hW hr => spec_Mul _ r _ 10 200 W (g3.chg hW) hr hNd (Nat.lt_of_lt_of_le (show 10 < 65536 ^ 1 by decide) (Nat.pow_le_pow_right (by decide) (by decide))) (by decide)
              have HAd : Hid (∀ W r1 r2, Sn W r1 (Nd (fs.take cn) * 10) → Sn W r2 d → Calls Tryz.prog 41 #[r1, r2] W (SnNew (Nd (fs.take cn) * 10 + d) W)) := Lib.hid fun W r1 r2 h1 h2 => spec_AddN r1 r2 _ d 201 W h1 h2 (by have := hNd; rw [Nat.pow_succ]; omega) (Nat.lt_of_lt_of_le (show d < 65536 ^ 1 by omega) (Nat.pow_le_pow_right (by decide) (by decide))) (by decide)
              have HG := Lib.hid g1
              have hS0 := HKP.out w2.drew (Chg.refl No w2).drew
              clear g1 g2 g3 g4 g5 hNd
              refine wp_region_T (n := 14) (fun W => W.cell? ⟨w.heap.size + 1, 1, none⟩ = some (.int .i64 10) ∧ W.cell? ⟨w.heap.size + 1, 2, none⟩ = some (.slice mA mn mc)) (by kernel_rfl) ?_
              refine wpAnyT_take (i := 0) (v := ?_) rfl (by kernel_rfl) (fun _ _ _ h => h) (Or.inl ⟨by rfl, ?_⟩) hS0 ?_
              rotate_left
              · intro W hSW
                obtain ⟨hs1, hs2⟩ := hSW
                go_simp
                first | done | with_reducible rfl
              try simp only [List.getElem_toArray, List.getElem_cons_zero, List.getElem_cons_succ, Act.put, List.setIfInBounds_toArray, List.set_cons_zero, List.set_cons_succ]
              refine wpAnyT_take (i := 1) (v := ?_) rfl (by kernel_rfl) (fun _ _ _ h => h) (Or.inl ⟨by rfl, ?_⟩) hS0 ?_
              rotate_left
              · intro W hSW
                obtain ⟨hs1, hs2⟩ := hSW
                go_simp
                first | done | with_reducible rfl
              try simp only [List.getElem_toArray, List.getElem_cons_zero, List.getElem_cons_succ, Act.put, List.setIfInBounds_toArray, List.set_cons_zero, List.set_cons_succ]
              refine wpAnyT_take (i := 2) (v := ?_) rfl (by kernel_rfl) (fun _ _ _ h => h) (Or.inl ⟨by rfl, ?_⟩) hS0 ?_
              rotate_left
              · intro W hSW
                obtain ⟨hs1, hs2⟩ := hSW
                go_simp
                first | done | with_reducible rfl
              try simp only [List.getElem_toArray, List.getElem_cons_zero, List.getElem_cons_succ, Act.put, List.setIfInBounds_toArray, List.set_cons_zero, List.set_cons_succ]
              refine wpAnyT_take (i := 3) (v := ?_) rfl (by kernel_rfl) (fun _ _ _ h => h) (Or.inl ⟨by rfl, ?_⟩) hS0 ?_
              rotate_left
              · intro W hSW
                obtain ⟨hs1, hs2⟩ := hSW
                go_simp
                first | done | with_reducible rfl
              try simp only [List.getElem_toArray, List.getElem_cons_zero, List.getElem_cons_succ, Act.put, List.setIfInBounds_toArray, List.set_cons_zero, List.set_cons_succ]
              refine wpAnyT_take (i := 6) (v := ?_) rfl (by kernel_rfl) (fun _ _ _ h => h) (Or.inl ⟨by rfl, ?_⟩) hS0 ?_
              rotate_left
              · intro W hSW
                obtain ⟨hs1, hs2⟩ := hSW
                go_simp
                first | done | with_reducible rfl
              try simp only [List.getElem_toArray, List.getElem_cons_zero, List.getElem_cons_succ, Act.put, List.setIfInBounds_toArray, List.set_cons_zero, List.set_cons_succ]
              refine wpAnyT_take (i := 7) (v := ?_) rfl (by kernel_rfl) (fun _ _ _ h => h) (Or.inl ⟨by rfl, ?_⟩) hS0 ?_
              rotate_left
              · intro W hSW
                obtain ⟨hs1, hs2⟩ := hSW
                go_simp
                first | done | with_reducible rfl
              try simp only [List.getElem_toArray, List.getElem_cons_zero, List.getElem_cons_succ, Act.put, List.setIfInBounds_toArray, List.set_cons_zero, List.set_cons_succ]
              refine wpAnyT_take (i := 8) (v := ?_) rfl (by kernel_rfl) (fun _ _ _ h => h) (Or.inl ⟨by rfl, ?_⟩) hS0 ?_
              rotate_left
              · intro W hSW
                obtain ⟨hs1, hs2⟩ := hSW
                go_simp
                first | done | with_reducible rfl
              try simp only [List.getElem_toArray, List.getElem_cons_zero, List.getElem_cons_succ, Act.put, List.setIfInBounds_toArray, List.set_cons_zero, List.set_cons_succ]
              refine wpAnyT_take (i := 9) (v := ?_) rfl (by kernel_rfl) (fun _ _ _ h => h) (Or.inl ⟨by rfl, ?_⟩) hS0 ?_
              rotate_left
              · intro W hSW
                obtain ⟨hs1, hs2⟩ := hSW
                go_simp
                first | done | with_reducible rfl
              try simp only [List.getElem_toArray, List.getElem_cons_zero, List.getElem_cons_succ, Act.put, List.setIfInBounds_toArray, List.set_cons_zero, List.set_cons_succ]
              refine wpAnyT_take (i := 10) (v := ?_) rfl (by kernel_rfl) (fun _ _ _ h => h) (Or.inl ⟨by rfl, ?_⟩) hS0 ?_
              rotate_left
              · intro W hSW
                obtain ⟨hs1, hs2⟩ := hSW
                go_simp
                first | done | with_reducible rfl
              try simp only [List.getElem_toArray, List.getElem_cons_zero, List.getElem_cons_succ, Act.put, List.setIfInBounds_toArray, List.set_cons_zero, List.set_cons_succ]
              refine wpAnyT_one (i := 4) rfl (by kernel_rfl) (fun K hK => ?_)
              simp only [List.getElem_toArray, List.getElem_cons_zero, List.getElem_cons_succ]
              go_simp
              (with_reducible refine (H30.out _).mono ?_)
              rintro e1 v1 ⟨r1, rfl, hr1, hk1⟩
              have KV1 := Lib.hid ((Chg.refl No w2).drew.then hk1 (fun _ _ _ f => f))
              have hS1 := HKP.out v1 KV1.out
              obtain ⟨r1A, r1n, r1c, rfl⟩ := hr1.slc'
              have R1 := Lib.hid hr1
              clear hr1 hk1
              go_wp2_with fail
              refine hK.out _ _ (fun _ => hS1) ?_
              clear hK
              clear K
              try simp only [List.getElem_toArray, List.getElem_cons_zero, List.getElem_cons_succ, Act.put, List.setIfInBounds_toArray, List.set_cons_zero, List.set_cons_succ]
              refine wpAnyT_one (i := 5) rfl (by kernel_rfl) (fun K hK => ?_)
              simp only [List.getElem_toArray, List.getElem_cons_zero, List.getElem_cons_succ]
              go_simp
              (with_reducible refine (HMl.out _ _ KV1.out R1.out).mono ?_)
              rintro e2 v2 ⟨r2, rfl, hr2, hk2⟩
              have KV2 := Lib.hid (KV1.out.then hk2 (fun _ _ _ f => f))
              have hS2 := HKP.out v2 KV2.out
              obtain ⟨r2A, r2n, r2c, rfl⟩ := hr2.slc'
              have R2 := Lib.hid hr2
              clear hr2 hk2
              go_wp2_with fail
              refine hK.out _ _ (fun _ => hS2) ?_
              clear hK
              clear K
              try simp only [List.getElem_toArray, List.getElem_cons_zero, List.getElem_cons_succ, Act.put, List.setIfInBounds_toArray, List.set_cons_zero, List.set_cons_succ]
              refine wpAnyT_one (i := 11) rfl (by kernel_rfl) (fun K hK => ?_)
              simp only [List.getElem_toArray, List.getElem_cons_zero, List.getElem_cons_succ]
              go_simp
              (with_reducible refine (HFg.out _).mono ?_)
              rintro e3 v3 ⟨rfl, rfl⟩
              go_wp2_with fail
              refine hK.out _ _ (fun _ => hS2) ?_
              clear hK
              clear K
              try simp only [List.getElem_toArray, List.getElem_cons_zero, List.getElem_cons_succ, Act.put, List.setIfInBounds_toArray, List.set_cons_zero, List.set_cons_succ]
              refine wpAnyT_one (i := 12) rfl (by kernel_rfl) (fun K hK => ?_)
              simp only [List.getElem_toArray, List.getElem_cons_zero, List.getElem_cons_succ]
              go_simp
              (with_reducible refine (H30d.out _).mono ?_)
              rintro e4 v4 ⟨r4, rfl, hr4, hk4⟩
              have KV4 := Lib.hid (KV2.out.then hk4 (fun _ _ _ f => f))
              have hS4 := HKP.out v4 KV4.out
              obtain ⟨r4A, r4n, r4c, rfl⟩ := hr4.slc'
              have R24 := Lib.hid (R2.out.chg hk4)
              have R4 := Lib.hid hr4
              clear hr4 hk4
              go_wp2_with fail
              refine hK.out _ _ (fun _ => hS4) ?_
              clear hK
              clear K
              try simp only [List.getElem_toArray, List.getElem_cons_zero, List.getElem_cons_succ, Act.put, List.setIfInBounds_toArray, List.set_cons_zero, List.set_cons_succ]
              refine wpAnyT_one (i := 13) rfl (by kernel_rfl) (fun K hK => ?_)
              simp only [List.getElem_toArray, List.getElem_cons_zero, List.getElem_cons_succ]
              go_simp
              (with_reducible refine (HAd.out _ _ _ R24.out R4.out).mono ?_)
              rintro e5 v5 ⟨r5, rfl, hr5, hn5, hk5⟩
              have KV5 := Lib.hid (KV4.out.then hk5 (fun _ _ _ f => f))
              have hS5 := HKP.out v5 KV5.out
              obtain ⟨r5A, r5n, r5c, rfl⟩ := hr5.slc'
              have hB5 := HG.out.chg KV5.out (fun _ f => f)
              have f5 := hB5.plain.free 2
              have ce2 := hS5.2
              have KS5 := Lib.hid KV4.out.size
              have R5 := Lib.hid (And.intro hr5 hn5)
              have HB5 := Lib.hid hB5
              clear hr5 hn5 hk5 hB5
              go_wp2_with fail
              refine hK.out _ _ (fun _ => hS5) ?_
              clear hK
              clear K
              try simp only [List.getElem_toArray, List.getElem_cons_zero, List.getElem_cons_succ, Act.put, List.setIfInBounds_toArray, List.set_cons_zero, List.set_cons_succ]
              refine wpAnyT_one (i := 14) rfl (by kernel_rfl) (fun K hK => ?_)
              simp only [List.getElem_toArray, List.getElem_cons_zero, List.getElem_cons_succ]
              go_simp
              refine hK.out _ _ (fun h => absurd h (by decide)) ?_
              clear hK
              clear K
              try simp only [List.getElem_toArray, List.getElem_cons_zero, List.getElem_cons_succ, Act.put, List.setIfInBounds_toArray, List.set_cons_zero, List.set_cons_succ]
              refine wpAnyT_one (i := 15) rfl (by kernel_rfl) (fun K hK => ?_)
              simp only [List.getElem_toArray, List.getElem_cons_zero, List.getElem_cons_succ]
              go_simp
              refine hK.out _ _ (fun h => absurd h (by decide)) ?_
              clear hK
              clear K
              try simp only [List.getElem_toArray, List.getElem_cons_zero, List.getElem_cons_succ, Act.put, List.setIfInBounds_toArray, List.set_cons_zero, List.set_cons_succ]
              refine wpAnyT_done (by kernel_rfl) ?_ _
              go_wp2_with fail
              go_meet
              have ks := HB5.out.set_chg (u := .slice mA mn mc) 2 (.slice r5A r5n r5c) rfl (noWB_slice _ _ _)
              have hB := HB5.out.set 2 (.slice r5A r5n r5c)
              have hout : OutB (.slice r5A r5n r5c) w.heap.size := fun ad x y e => (R5.out.2 ad x y e).imp id (fun h => by
                have h1 := HM2.out.1.lt
                have h2 := KS5.out
                exact ⟨by omega, by omega⟩)
              refine ⟨rfl, r5A, r5n, r5c, Lib.hid ⟨hB, (HM2.out.2.1.chg KV5.out (fun _ f => f)).chg ks (fun o (f : w.heap.size = w.heap.size + 1) => by omega), ?_, hout, (HM2.out.2.2.2.2.then KV5.out (fun _ _ _ f => f)).then ks (fun y o hy f => by have h : y = w.heap.size + 1 := f; omega)⟩⟩
              have h5 := R5.out.1.other ks (fun ad x y e => (hout ad x y e).imp id (fun h => h.2))
              rw [take_snoc fs (by have := HF.out.2.2.1; omega), Nd_snoc, ← HYD.out.1, Nat.mul_comm]
              exact h5
            case rest =>
              obtain ⟨rfl, mA', mn', mc', HM3⟩ := hcut
              by_cases ha2 : 2 ≤ a
              · obtain rfl : p = true := by rw [HYD.out.2.2.2.2, decide_eq_true ha2]
                have c3 : wc.cell? ⟨w.heap.size + 1, 3, none⟩ = some (.int .i64 bh) := HM3.out.1.cell 3
                have f3 := HM3.out.1.plain.free 3
                have hbhb : bh ≤ 160 := by rw [HYD.out.2.2.2.1]; omega
                go_wp2_with fail
                go_roundw
                case rel =>
                  have ka := HM3.out.1.set_chg (u := .int .i64 (bh : Nat)) 3 (.int .i64 ((bh + 1 : Nat) : Int)) rfl (noWB_int _)
                  have hB := HM3.out.1.set 3 (.int .i64 ((bh + 1 : Nat) : Int))
                  obtain ⟨z1, z2, z3⟩ := HYD.out.2.2
                  refine ⟨a + 1, cn + 1, bh + 1, true, mA', mn', mc', by go_num, rfl, by go_num, Lib.hid ⟨?_, by omega, (decide_eq_true (by omega)).symm, by rw [← HQ.out.2.1]; omega⟩, by omega, Lib.hid ⟨hB, HM3.out.2.1.chg ka (fun o (f : w.heap.size = w.heap.size + 1) => by omega), HM3.out.2.2.1.other ka (fun ad x y e => (HM3.out.2.2.2.1 ad x y e).imp id (fun h => h.2)), HM3.out.2.2.2.1, HM3.out.2.2.2.2.then ka (fun y o hy f => by have h : y = w.heap.size + 1 := f; omega)⟩⟩
                  rw [if_neg (by omega), z1, if_neg (by omega)]; omega
                case measure => simp [intOf]; omega
              · obtain rfl : a = 0 := by omega
                obtain rfl : p = false := by rw [HYD.out.2.2.2.2]; rfl
                go_wp2_with fail
                go_roundw
                case rel =>
                  obtain ⟨z1, z2, z3⟩ := HYD.out.2.2
                  exact ⟨1, cn + 1, bh, false, mA', mn', mc', by go_num, rfl, rfl, Lib.hid ⟨by rw [z1]; rfl, by rw [z2], rfl, by rw [← HQ.out.2.1]; omega⟩, by omega, HM3⟩
                case measure => simp [intOf]; omega
end Go.Proofs.YtacfhndledcmgaaGreatDoor
