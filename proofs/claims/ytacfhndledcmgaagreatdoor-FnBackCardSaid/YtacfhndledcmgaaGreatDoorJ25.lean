/- Lemmas for the law FnBack: MinPrec, MantExp, Int, impl.real, impl.Parse. Conditions: those in each theorem; none besides. -/
import Derived.Test.YtacfhndledcmgaaGreatDoorJ20
import Derived.Test.YtacfhndledcmgaaGreatDoorJ24
set_option linter.unusedVariables false
set_option linter.unusedSimpArgs false
namespace Go.Proofs.YtacfhndledcmgaaGreatDoor
open Go.RowKit
theorem pow_odd {a b A B : Nat} (h : 2 ^ a * A = 2 ^ b * B) (hA : A % 2 = 1) (hB : B % 2 = 1) : a = b ∧ A = B := by
  have key : ∀ {a b A B : Nat}, 2 ^ a * A = 2 ^ b * B → A % 2 = 1 → a ≤ b → a = b ∧ A = B := by
    intro a b A B h hA hab
    obtain ⟨d, rfl⟩ : ∃ d, b = a + d := ⟨b - a, by omega⟩
    rw [Nat.pow_add, Nat.mul_assoc] at h
    have h2 := Nat.eq_of_mul_eq_mul_left (Nat.two_pow_pos a) h
    cases d with
    | zero => exact ⟨rfl, by simpa using h2⟩
    | succ d =>
      exfalso
      rw [h2, Nat.pow_succ, Nat.mul_assoc, Nat.mul_left_comm, Nat.mul_mod_right] at hA
      omega
  rcases Nat.le_total a b with h1 | h1
  · exact key h hA h1
  · obtain ⟨h2, h3⟩ := key h.symm hB h1
    exact ⟨h2.symm, h3.symm⟩
theorem blen_pow {X k : Nat} (h : X ≠ 0) : blen (2 ^ k * X) = k + blen X := by
  obtain ⟨h1, h2, h3⟩ := blen_spec h
  have e := blen_of (x := 2 ^ k * X) (k := k + blen X - 1) (by
    rw [show k + blen X - 1 = k + (blen X - 1) by omega, Nat.pow_add]
    exact Nat.mul_le_mul_left _ h2) (by
    rw [show k + blen X - 1 + 1 = k + blen X by omega, Nat.pow_add]
    exact Nat.mul_lt_mul_of_pos_left h3 (Nat.two_pow_pos k))
  omega
theorem upTo_odd {X m t O : Nat} (hX : X = 2 ^ t * O) (hO : O % 2 = 1) (hm : blen X ≤ 64 * m) : upTo X m = 2 ^ (64 * m - blen O) * O ∧ blen X = t + blen O := by
  have hO0 : O ≠ 0 := by omega
  have hB : blen X = t + blen O := by rw [hX]; exact blen_pow hO0
  refine ⟨?_, hB⟩
  unfold upTo
  rw [hB, hX, Nat.mul_assoc, Nat.mul_comm O, ← Nat.mul_assoc, ← Nat.pow_add]
  congr 2; omega
theorem float_Prec (b P M : Nat) (a : Int) (f : Nat) (n : Bool) (v : Value) (e : Int) (w : World) (h : Fl w b P M a f n v e) (hP : P < 60000) :
    Calls Tryz.prog 134 #[.pointer (some ⟨b, 0, none⟩)] w fun r w' => r = .returned (.int .u64 P) ∧ w = w' := by
  have c0 := h.c0
  clear h
  go_enter Tryz.func134, Tryz.ntmps134
  go_wp2_with fail
  go_ret
  exact ⟨rfl, rfl⟩
theorem float_Mode (b P M : Nat) (a : Int) (f : Nat) (n : Bool) (v : Value) (e : Int) (w : World) (h : Fl w b P M a f n v e) :
    Calls Tryz.prog 135 #[.pointer (some ⟨b, 0, none⟩)] w fun r w' => r = .returned (.int .u8 M) ∧ w = w' := by
  have c1 := h.c1
  clear h
  go_enter Tryz.func135, Tryz.ntmps135
  go_wp2_with fail
  go_ret
  exact ⟨rfl, rfl⟩
theorem float_Signbit (b P M : Nat) (a : Int) (f : Nat) (n : Bool) (v : Value) (e : Int) (w : World) (h : Fl w b P M a f n v e) :
    Calls Tryz.prog 136 #[.pointer (some ⟨b, 0, none⟩)] w fun r w' => r = .returned (.bool n) ∧ w = w' := by
  have c4 := h.c4
  clear h
  go_enter Tryz.func136, Tryz.ntmps136
  go_wp2_with fail
  go_ret
  exact ⟨rfl, rfl⟩
theorem float_IsInf (b P M : Nat) (a : Int) (n : Bool) (v : Value) (e : Int) (w : World) (h : Fl w b P M a 1 n v e) :
    Calls Tryz.prog 137 #[.pointer (some ⟨b, 0, none⟩)] w fun r w' => r = .returned (.bool false) ∧ w = w' := by
  have c3 := h.c3
  clear h
  go_enter Tryz.func137, Tryz.ntmps137
  go_wp2_with fail
  go_ret
  exact ⟨rfl, rfl⟩
theorem float_Sign (b P M : Nat) (a : Int) (n : Bool) (v : Value) (e : Int) (w : World) (h : Fl w b P M a 1 n v e) :
    Calls Tryz.prog 138 #[.pointer (some ⟨b, 0, none⟩)] w fun r w' => r = .returned (.int .i64 (if n then -1 else 1)) ∧ w = w' := by
  have c3 := h.c3
  have c4 := h.c4
  clear h
  cases n
  · go_enter Tryz.func138, Tryz.ntmps138
    go_wp2_with fail
    go_ret
    exact ⟨rfl, rfl⟩
  · go_enter Tryz.func138, Tryz.ntmps138
    go_wp2_with fail
    go_ret
    exact ⟨rfl, rfl⟩
theorem float_Acc (b P M : Nat) (a : Int) (f : Nat) (n : Bool) (v : Value) (e : Int) (w : World) (h : Fl w b P M a f n v e) :
    Calls Tryz.prog 84 #[.pointer (some ⟨b, 0, none⟩)] w fun r w' => r = .returned (.int .i8 a) ∧ w = w' := by
  have c2 := h.c2
  clear h
  go_enter Tryz.func84, Tryz.ntmps84
  go_wp2_with fail
  go_ret
  exact ⟨rfl, rfl⟩
set_option maxHeartbeats 2000000 in
theorem float_MinPrec (base b P M : Nat) (n : Bool) (X : Nat) (E : Int) (xb xo m xc t O : Nat) (w : World) (h : FlX w base b P M n X E xb xo m xc) (hX : X = 2 ^ t * O) (hO : O % 2 = 1) (hm : m ≤ 1000) (hg : Glob w) :
    Calls Tryz.prog 140 #[.pointer (some ⟨b, 0, none⟩)] w fun r w' => r = .returned (.int .u64 (blen O : Nat)) ∧ Drew w w' := by
  obtain ⟨hU, hB⟩ := upTo_odd hX hO h.hi
  have hi := h.hi
  have hT := nat_tz_pos xb xo m xc _ w.drew (h.nt.chg (Chg.refl No w).drew (fun _ _ f => f)) h.m0 hm (hg.drewN 1)
  have HT : Hid (Calls Tryz.prog 204 #[.slice (some ⟨xb, xo, none⟩) m xc] w.drew fun e w' => e = .returned (.int .u64 (64 * m - blen O : Nat)) ∧ Drew w.drew w') := Lib.hid (hT.mono (by
    rintro e w' ⟨k, j, rfl, hk, -, hd⟩
    rw [hU] at hk
    obtain ⟨h1, -⟩ := pow_odd hk hO (by omega)
    exact ⟨by rw [h1], hd⟩))
  have hm0 := h.m0
  obtain ⟨c0, c1, c2, c3, c4, c5, c6, -, -, -, -, -⟩ := h.fl
  obtain ⟨S, hS⟩ : ∃ S, S = 64 * m - blen O := ⟨_, rfl⟩
  rw [← hS] at HT
  obtain ⟨B, hBB⟩ : ∃ B, B = blen O := ⟨_, rfl⟩
  have e1 : IntKind.u64.wrap ((m : Int) * 64 - (S : Int)) = (B : Int) := by rw [IntKind.wrap_u64]; omega
  have e0 : IntKind.u64.wrap (m : Int) = (m : Int) := by rw [IntKind.wrap_u64]; omega
  have e3 : IntKind.u64.wrap ((m : Int) * 64) = (m : Int) * 64 := by rw [IntKind.wrap_u64]; omega
  rw [← hBB]
  clear h hT hg hU hB hX hO hS hBB hi
  go_enter Tryz.func140, Tryz.ntmps140
  go_upto_region 3 with fail
  go_region_with (go_at_call 204; refine HT.out.mono ?_; rintro e w2 ⟨rfl, hd⟩; obtain ⟨kk, rfl⟩ := hd)
  all_goals
    go_wp2_with fail
    go_ret
    exact ⟨rfl, ⟨_, rfl⟩⟩
set_option maxHeartbeats 2000000 in
theorem float_MantExp (b p0 m0 : Nat) (a0 : Int) (f0 : Nat) (n0 : Bool) (e0 : Int) (base x P M : Nat) (n : Bool) (X : Nat) (E : Int) (xb xo m xc : Nat) (w : World) (hz : Fl w b p0 m0 a0 f0 n0 (.slice none 0 0) e0) (hx : FlX w base x P M n X E xb xo m xc)
    (hm : m ≤ 1000) (hne : b ≠ x) (hb : xb ≠ b) (hs : 17 ≤ w.heap.size) (hE : -20000 ≤ E) (hE2 : E ≤ 20000) :
    Calls Tryz.prog 139 #[.pointer (some ⟨x, 0, none⟩), .pointer (some ⟨b, 0, none⟩)] w fun r w' => r = .returned (.int .i64 (blen X + E)) ∧ ∃ yb yo yc, FlX w' w.heap.size b P M n X (-(blen X : Int)) yb yo m yc ∧ Chg (Blk b) w w' := by
  have H := Lib.hid (float_Copy b p0 m0 a0 f0 n0 e0 base x P M n X E xb xo m xc w hz hx hm hne hb hs)
  obtain ⟨c0, c1, c2, c3, c4, c5, c6, -, -, -, -, -⟩ := hx.fl
  have hxi := hx.hi
  obtain ⟨B, hB⟩ : ∃ B : Int, B = blen X + E := ⟨_, rfl⟩
  rw [← hB] at c6 ⊢
  have e1 : IntKind.i64.wrap B = B := IntWalk.i64_in _ (by omega)
  clear hz hx hB hxi
  go_enter Tryz.func139, Tryz.ntmps139
  go_wp2_with fail
  refine H.out.mono ?_
  rintro r w1 ⟨rfl, yb, yo, yc, h1, h2⟩
  have H1 := Lib.hid h1
  have H2 := Lib.hid h2
  have g3 := h1.fl.c3
  have g6 := h1.fl.c6
  have f6 := h1.fl.plain.free 6
  clear h1 h2 c0 c1 c2 c3 c4 c5 c6
  go_wp2_with fail
  go_ret
  have F := H1.out.fl.set6 0
  have K := H1.out.fl.put6 H2.out 0 (fun _ => rfl)
  have k1 := H1.out.fl.put6 (Chg.refl (Blk b) w1) 0 (fun _ => rfl)
  refine ⟨rfl, yb, yo, yc, ⟨by rw [Int.add_right_neg]; exact F, H1.out.nt.chg k1 (fun i hi h => H1.out.ne h), H1.out.m0, H1.out.lo, H1.out.hi, H1.out.ne, H1.out.own⟩, K⟩
theorem make_acc (n : Bool) (w : World) : Calls Tryz.prog 199 #[.bool n] w fun r w' => (∃ a : Int, r = .returned (.int .i8 a)) ∧ w = w' := by
  cases n
  · go_enter Tryz.func199, Tryz.ntmps199
    go_wp2_with fail
    go_ret
    exact ⟨⟨_, rfl⟩, rfl⟩
  · go_enter Tryz.func199, Tryz.ntmps199
    go_wp2_with fail
    go_ret
    exact ⟨⟨_, rfl⟩, rfl⟩
/-- What Int(nil) leaves. -/
def IntOut (n : Bool) (O : Nat) (w : World) (e : Ending) (w' : World) : Prop :=
  ∃ v, e = .returned (.tuple #[.pointer (some ⟨w.heap.size, 0, none⟩), .int .i8 0]) ∧ In w' w.heap.size n v ∧ Nt w' v O ∧ Chg No w w'
set_option maxRecDepth 100000 in
set_option maxHeartbeats 4000000 in
theorem float_Int (base b P M : Nat) (n : Bool) (X : Nat) (E : Int) (xb xo m xc t O : Nat) (w : World) (h : FlX w base b P M n X E xb xo m xc) (hX : X = 2 ^ t * O) (hO : O % 2 = 1) (hE : (t : Int) + E = 0) (hm : m ≤ 1000) (hg : Glob w) (h17 : 17 ≤ w.heap.size) :
    Calls Tryz.prog 141 #[.pointer (some ⟨b, 0, none⟩), .pointer none] w (IntOut n O w) := by
  obtain ⟨hU, hB⟩ := upTo_odd hX hO h.hi
  have hi := h.hi
  have hm0 := h.m0
  have hO0 : O ≠ 0 := by omega
  obtain ⟨p, hp⟩ : ∃ p, p = blen O := ⟨_, rfl⟩
  have hp1 := (blen_spec hO0).1
  have hpm : p ≤ 64 * m := by omega
  have he : (blen X : Int) + E = (p : Int) := by omega
  have ip : (0 : Int) < (p : Int) := by omega
  have hMP : Hid (∀ W, Chg No w W → Calls Tryz.prog 140 #[.pointer (some ⟨b, 0, none⟩)] W fun r w' => r = .returned (.int .u64 p) ∧ Drew W w') := Lib.hid fun W hW => by
    rw [hp]
    exact float_MinPrec base b P M n X E xb xo m xc t O W (h.chg hW (fun _ f => f) (fun _ f => f)) hX hO hm (hg.no hW)
  have HF := Lib.hid h
  have HU := Lib.hid hU
  have HPP := Lib.hid hp
  have HO1 := Lib.hid hO0
  have F := h.fl
  rw [he] at F
  have HF1 := Lib.hid F
  obtain ⟨c0, c1, c2, c3, c4, c5, c6, -, -, -, -, -⟩ := F
  clear h hX hO hE hg hU hB hi hp he hO0 hp1
  have K1 := Lib.hid ((Chg.refl No w).alloc (.cells #[.bool false, .slice none 0 0] 87))
  have I1 := Lib.hid (In.new w h17)
  go_enter Tryz.func141, Tryz.ntmps141
  go_upto_region 3 with fail
  generalize w.alloc (.cells #[.bool false, .slice none 0 0] 87) = w1 at *
  clear c0 c1 c2 c3 c4 c5 c6
  obtain ⟨c0, c1, c2, c3, c4, c5, c6, -, -, -, -, -⟩ := HF1.out.chg K1.out (fun _ f => f)
  obtain ⟨d0, d1, dp, -⟩ := I1.out
  have fd0 := dp.free 0
  obtain ⟨ib, hib⟩ : ∃ ib, ib = w.heap.size := ⟨_, rfl⟩
  rw [← hib] at d0 d1 fd0 I1 ⊢
  have HIB := Lib.hid hib
  have HMA := Lib.hid (make_acc n w1)
  have HM1 := Lib.hid (hMP.out w1 K1.out)
  clear dp hib
  go_wp2_with fail
  refine HMA.out.mono ?_
  rintro r w2 ⟨⟨a, rfl⟩, rfl⟩
  have e1 : IntKind.u64.wrap (m : Int) = (m : Int) := by rw [IntKind.wrap_u64]; omega
  obtain ⟨AB, hAB⟩ : ∃ AB, AB = 64 * m := ⟨_, rfl⟩
  have e2 : IntKind.u64.wrap ((m : Int) * 64) = (AB : Int) := by rw [IntKind.wrap_u64]; omega
  have hABp : p ≤ AB := by omega
  have hABm : AB ≤ 64000 := by omega
  have HAB := Lib.hid hAB
  clear hAB
  have e3 : IntKind.u64.wrap (p : Int) = (p : Int) := by rw [IntKind.wrap_u64]; omega
  go_wp2_with fail
  refine HM1.out.mono ?_
  rintro r w2 ⟨rfl, hd⟩
  obtain ⟨kk, rfl⟩ := hd
  have k2 : Chg No w1 (w1.drewN kk) := (Chg.refl No w1).drewN kk
  have K2 := Lib.hid (K1.out.drewN kk)
  have I2 := Lib.hid (I1.out.chg k2 (fun _ f => f))
  have HF2 := Lib.hid (HF.out.chg K2.out (fun _ f => f) (fun _ f => f))
  generalize w1.drewN kk = w2 at *
  clear c0 c1 c2 c3 c4 c5 c6 d0 d1 fd0 k2 HMA HM1 I1 K1
  have F2 := HF2.out.fl
  obtain ⟨c0, c1, c2, c3, c4, c5, -, -, -, -, -, -⟩ := F2
  obtain ⟨d0, d1, dp, -⟩ := I2.out
  have fd0 := dp.free 0
  go_upto_region 16 with fail
  have ibb : ib ≠ b := by have h1 := HF.out.fl.plain.lt; have := HIB.out; omega
  have hk3 : Chg (Blk ib) w2 (w2.setCell ⟨ib, 0, none⟩ (.bool n)) := (Chg.refl (Blk ib) w2).setO _ d0 (fun n e => by cases e) (fun n e => by cases e) (fun _ => rfl)
  have I3 : In (w2.setCell ⟨ib, 0, none⟩ (.bool n)) ib n (.slice none 0 0) := ⟨World.cell?_setCell_same _ _ _ d0, (cell_setCell_ne _ _ _ _ _ _ (.inr (by decide))).trans d1, dp.setCell _ _, by have := HIB.out; omega⟩
  have HI3 := Lib.hid I3
  have hxib : xb ≠ ib := by have h1 := HF.out.nt.1.plain.lt; have := HIB.out; omega
  have HF3 := Lib.hid (HF2.out.chg hk3 (fun o h => ibb h.symm) (fun i h => hxib h))
  have K3 := Lib.hid (K2.out.then hk3 (fun x o hx h => by have h1 : x = ib := h; have := HIB.out; omega))
  clear c0 c1 c2 c3 c4 c5 d0 d1 dp fd0 hk3 I3
  generalize w2.setCell ⟨ib, 0, none⟩ (.bool n) = w3 at *
  have F3 := HF3.out.fl
  obtain ⟨c0, c1, c2, c3, c4, c5, -, -, -, -, -, -⟩ := F3
  obtain ⟨d0, d1, dp, -⟩ := HI3.out
  have fd1 := dp.free 1
  have hNU := HF3.out.nt
  rw [HU.out] at hNU
  have t1 : decide (AB < p) = false := decide_eq_false (by omega)
  obtain ⟨s, hs⟩ : ∃ s, s = AB - p := ⟨_, rfl⟩
  have es : (AB : Int) - (p : Int) = (s : Int) := by omega
  have es2 : IntKind.u64.wrap ((AB : Int) - (p : Int)) = (s : Int) := by rw [IntKind.wrap_u64]; omega
  have hUs : 2 ^ (64 * m - blen O) * O = 2 ^ s * O := by rw [hs, HPP.out, HAB.out]
  rw [hUs] at hNU
  have hSm : Small (2 ^ s * O) := by
    rw [← hUs, ← HU.out]
    have h1 := upTo_lt HF3.out.X0 HF3.out.hi
    unfold Small
    obtain ⟨T, hT⟩ : ∃ T : Nat, T = 1000 := ⟨_, rfl⟩
    rw [← hT]
    exact Nat.lt_of_lt_of_le h1 (Nat.pow_le_pow_right WB_pos (by omega))
  have hN4 : Nt w3.drew (.slice (some ⟨xb, xo, none⟩) m xc) (2 ^ s * O) := (hNU.chg (Chg.refl No w3).drew (fun _ _ f => f)).nt
  have h173 : 17 ≤ w3.drew.heap.size := Nat.le_trans h17 K3.out.size
  have hK : ∀ {w4 : World} {v : Value} {V : Nat}, Res w3.drew w4 (.slice none 0 0) v V → Chg No w3 w4 := fun hr => ((Chg.refl No w3).drew).then hr.chg (fun _ _ _ f => f)
  have HKK := Lib.hid (fun (w4 : World) (v : Value) (V : Nat) (h : Res w3.drew w4 (.slice none 0 0) v V) => hK h)
  have fin : ∀ (w4 : World) (va : Option Addr) (vn vc : Nat), Res w3.drew w4 (.slice none 0 0) (.slice va vn vc) O → IntOut n O w (.returned (.tuple #[.pointer (some ⟨ib, 0, none⟩), .int .i8 0])) (w4.setCell ⟨ib, 1, none⟩ (.slice va vn vc)) := fun w4 va vn vc hr => by
    have k4 := hK hr
    have I4 := HI3.out.chg k4 (fun _ f => f)
    have hk5 : Chg (Blk ib) w4 (w4.setCell ⟨ib, 1, none⟩ (.slice va vn vc)) := (Chg.refl (Blk ib) w4).setO _ I4.c1 (fun n e => by cases e) (fun n e => by cases e) (fun _ => rfl)
    have hib := HIB.out
    refine ⟨.slice va vn vc, by rw [hib], by rw [← hib]; exact ⟨(cell_setCell_ne _ _ _ _ _ _ (.inr (by decide))).trans I4.c0, World.cell?_setCell_same _ _ _ I4.c1, I4.plain.setCell _ _, I4.own⟩, hr.nt.chg hk5 (fun x o f e => ?_), (K3.out.then k4 (fun _ _ _ f => f)).then hk5 (fun x o hx e => by have h1 : x = ib := e; omega)⟩
    have h1 : x = ib := e
    rcases hr.fp x o f with f | f
    · exact f
    · have h2 : w3.heap.size ≤ x := f
      have h3 := HI3.out.plain.lt
      omega
  have HFin := Lib.hid fin
  clear hK fin hUs hNU
  by_cases hs0 : s = 0
  · have t2 : decide (p < AB) = false := decide_eq_false (by omega)
    rw [hs0, Nat.pow_zero, Nat.one_mul] at hN4 hSm
    have HSt := Lib.hid (nat_set (.slice none 0 0) _ O w3.drew (.inl rfl) hN4 hSm h173)
    clear hN4 hSm hs hs0 es es2
    go_upto_region 15 with fail
    go_region_with (go_at_call 156; refine HSt.out.mono ?_; rintro e w4 ⟨v, rfl, hr⟩; obtain ⟨va, vn, vc, rfl⟩ := hr.nt.sl; have I4 := HI3.out.chg (HKK.out _ _ _ hr) (fun _ f => f); have d1' := I4.c1; have fd1' := I4.plain.free 1; have HR := Lib.hid hr; clear hr I4)
    all_goals
      go_wp2_with fail
      go_ret2
      exact HFin.out _ _ _ _ HR.out
  · have t2 : decide (p < AB) = true := decide_eq_true (by omega)
    have hs5 : s ≤ 64000 := by omega
    have HSt := Lib.hid (nat_rsh (.slice none 0 0) _ (2 ^ s * O) s w3.drew (.inl rfl) hN4 hSm (by omega) (fun h => absurd h hs0) (.inr (fun _ _ _ _ f => f.elim)) h173)
    rw [Nat.mul_div_cancel_left _ (Nat.two_pow_pos s)] at HSt
    clear hN4 hSm hs
    go_upto_region 19 with fail
    clear es t1 t2 e1 e2 e3 hpm hABp hABm hs5 hs0
    go_region_with (go_at_call 148; refine HSt.out.mono ?_; rintro e w4 ⟨v, rfl, hr⟩; obtain ⟨va, vn, vc, rfl⟩ := hr.nt.sl; have I4 := HI3.out.chg (HKK.out _ _ _ hr) (fun _ f => f); have d1' := I4.c1; have fd1' := I4.plain.free 1; have HR := Lib.hid hr; clear hr I4)
    all_goals
      go_wp2_with fail
      go_ret2
      exact HFin.out _ _ _ _ HR.out
theorem int_Bits (b : Nat) (n : Bool) (v : Value) (w : World) (hi : In w b n v) (hv : ∃ a m c, v = .slice a m c) :
    Calls Tryz.prog 174 #[.pointer (some ⟨b, 0, none⟩)] w fun e w' => e = .returned v ∧ w = w' := by
  obtain ⟨a, m, c, rfl⟩ := hv
  have c1 := hi.c1
  clear hi
  go_enter Tryz.func174, Tryz.ntmps174
  go_wp2_with fail
  go_ret
  exact ⟨rfl, rfl⟩
/-- The words of a number that is not 0. -/
theorem nt_list {w : World} {v : Value} {O : Nat} (h : Nt w v O) (hO : O ≠ 0) : ∃ b o c l, v = .slice (some ⟨b, o, none⟩) l.length c ∧ NW w b o l.length c ∧ (∀ j (hj : j < l.length), wd w b (o + j) = l[j]) ∧ CanW l ∧ Vl l = O ∧ l ≠ [] := by
  rcases h with ⟨_, h⟩ | ⟨b, o, n, c, rfl, hn, hv, hz⟩
  · exact absurd h hO
  · have hn0 : 0 < n := by
      rcases Nat.eq_zero_or_pos n with e | e
      · subst e; exact absurd hv.symm hO
      · exact e
    have hle := hn.le
    obtain ⟨l, hl⟩ : ∃ l, l = (List.range n).map fun j => wd w b (o + j) := ⟨_, rfl⟩
    have hlen : l.length = n := by rw [hl]; simp
    have hget : ∀ j (hj : j < l.length), wd w b (o + j) = l[j] := fun j hj => by subst hl; simp
    have hV : Vl l = O := by
      unfold Vl
      rw [← hv, hlen]
      unfold Val
      refine V_congr n fun i hi => ?_
      have h1 : i < l.length := by omega
      rw [List.getD_eq_getElem?_getD, List.getElem?_eq_getElem h1]
      exact (hget i h1).symm
    refine ⟨b, o, c, l, by rw [hlen], by rw [hlen]; exact hn, hget, ⟨fun _ => ?_, fun x hx => ?_⟩, hV, fun e => by rw [e] at hlen; simp at hlen; omega⟩
    · rw [hV, ← hv, hlen]
      have h1 := V_split (fun j => wd w b (o + j)) (n - 1) 1
      rw [show n - 1 + 1 = n by omega] at h1
      unfold Val
      rw [h1]
      have h2 : 0 < wd w b (o + (n - 1)) := Nat.pos_of_ne_zero (hz.resolve_left (by omega))
      have h3 : V (fun j => wd w b (o + (n - 1 + j))) 1 = wd w b (o + (n - 1)) := by simp [V]
      rw [h3]
      have h4 := Nat.le_mul_of_pos_right (WB ^ (n - 1)) h2
      omega
    · obtain ⟨j, hj, rfl⟩ := List.getElem_of_mem hx
      rw [← hget j hj]
      exact (hn.isW j (by omega)).lt
set_option maxHeartbeats 4000000 in
theorem impl_wordsOf (b : Nat) (n : Bool) (v : Value) (O : Nat) (w : World) (hi : In w b n v) (hv : Nt w v O) (hO : O ≠ 0) (hSm : Small O) (h17 : 17 ≤ w.heap.size) :
    Calls Tryz.prog 103 #[.pointer (some ⟨b, 0, none⟩)] w fun e w' => ∃ r, e = .returned r ∧ ∃ l, Ls .u64 WB w' r l ∧ CanW l ∧ Vl l = O ∧ Chg No w w' ∧ (∀ x o, Fp r x o → w.heap.size ≤ x) := by
  have HB := Lib.hid (int_Bits b n v w hi hv.sl)
  obtain ⟨vb, vo, vc, l, rfl, hn, hg, hcan, hV, hne⟩ := nt_list hv hO
  obtain ⟨ci, hi1, hi2, hi3, hi4⟩ := info_of info41
  have hle := hn.le
  have hlb : l.length ≤ 1000 := by
    rcases Nat.lt_or_ge 1000 l.length with h | h
    · exfalso
      have h1 := hcan.1 hne
      rw [hV] at h1
      unfold Small at hSm
      obtain ⟨T, hT⟩ : ∃ T : Nat, T = 1000 := ⟨_, rfl⟩
      rw [← hT] at hSm h
      have h2 : WB ^ T ≤ WB ^ (l.length - 1) := Nat.pow_le_pow_right WB_pos (by omega)
      omega
    · exact h
  have HN := Lib.hid hn
  have HG := Lib.hid hg
  have HCan := Lib.hid (And.intro hcan hV)
  have L0 : 0 < l.length := List.length_pos_iff.2 hne
  obtain ⟨L, hL⟩ : ∃ L, L = l.length := ⟨_, rfl⟩
  rw [← hL] at HB hle hlb L0
  have HL := Lib.hid hL
  clear hi hv hn hg hcan hV hO hSm hne hL
  go_enter Tryz.func103, Tryz.ntmps103
  go_wp2_with fail
  refine HB.out.mono ?_
  rintro e w1 ⟨rfl, rfl⟩
  go_wp2_with fail
  go_loopg [3, 9] L (fun gk zv iv wr => ∃ k : Nat, k + gk = L ∧ iv = .int .i64 k ∧ Hid (Ls .u64 WB wr zv (l.take k)) ∧ Hid (∀ x o, Fp zv x o → w.heap.size ≤ x) ∧ Hid (Chg No w wr))
  case atStart => exact ⟨0, by omega, rfl, Lib.hid (.inl ⟨rfl, rfl⟩), Lib.hid (fun x o f => f.elim), Lib.hid (Chg.refl _ _)⟩
  case round =>
  obtain ⟨k, hk, rfl, hLs, hF, hC⟩ := hrel
  by_cases hlt : k < L
  · obtain ⟨g1, hg1⟩ : ∃ g, gk = g + 1 := ⟨gk - 1, by omega⟩
    have i1 : (k : Int) < (L : Int) := by omega
    have hkl : k < l.length := by rw [← HL.out]; exact hlt
    have cw : wr.cell? ⟨vb, vo + k, none⟩ = some (.int .u64 (l[k] : Nat)) := by
      have h1 := (HN.out.isW k (by have := HN.out.le; omega))
      rw [hC.out.cell _ _ h1.block (fun f => f), h1.cell, HG.out k hkl]
    obtain ⟨x, hx⟩ : ∃ x, x = l[k] := ⟨_, rfl⟩
    rw [← hx] at cw
    have hxw : x < WB := by rw [hx]; exact HCan.out.1.2 _ (List.getElem_mem hkl)
    have HT : Hid (l.take (k + 1) = l.take k ++ [x]) := Lib.hid (by rw [hx]; exact List.take_succ_eq_append_getElem hkl)
    have h17r : 17 ≤ wr.heap.size := Nat.le_trans h17 hC.out.size
    have hbig : (l.take k).length + [x].length ≤ 4294967296 := by rw [List.length_take]; simp; omega
    clear hx
    go_wp2_with (at_builtin; refine wpList_append_num rfl km64 (.tmp 13) (.tmp 15) 22 22 41 rfl ci Tryz.underlying22 hi1 hi2 hi3 (by rw [hi4]; omega) _ (l.take k) rfl (Ls.alloc km64 hLs.out _) _ rfl [x] (Src.one Tryz.underlying22 _ _ _ _) (by simpa using hxw) (by simp) hbig (by simp; omega) ?_; intro r w2 happ; have HA := Lib.hid happ; clear happ)
    go_roundg g1
    case measure => omega
    case rel =>
      refine ⟨k + 1, by omega, by go_num, Lib.hid (by rw [HT.out]; exact HA.out.ls), Lib.hid (fun y o f => ?_), Lib.hid ((hC.out.alloc _).then HA.out.chg (fun y o hy f => ?_))⟩
      · rcases HA.out.fp y o f with f | f
        · exact hF.out y o f
        · have := hC.out.size
          simp at f; omega
      · have := hF.out y o f; omega
  · obtain rfl : k = L := by omega
    have i1 : ¬ (k : Int) < (k : Int) := by omega
    go_wp2_with fail
    go_ret
    have h1 := hLs.out
    rw [HL.out, List.take_length] at h1
    exact ⟨_, rfl, l, h1, HCan.out.1, HCan.out.2, hC.out, hF.out⟩
theorem load43 (W : World) (b : Nat) (v0 v1 v2 v3 v4 v5 : Value) (c0 : W.cell? ⟨b, 0, none⟩ = some v0) (c1 : W.cell? ⟨b, 1, none⟩ = some v1) (c2 : W.cell? ⟨b, 2, none⟩ = some v2) (c3 : W.cell? ⟨b, 3, none⟩ = some v3) (c4 : W.cell? ⟨b, 4, none⟩ = some v4) (c5 : W.cell? ⟨b, 5, none⟩ = some v5) : (loadVar 43 ⟨b, 0, none⟩).run Tryz.prog W = .ok (.agg #[v0, v1, v2, v3, v4, v5]) W := by
  have h1 := Tryz.isAgg43
  have h2 := Tryz.sizeOf43
  go_simp
/-- A block of six cells is set whole. -/
def sr6 (W : World) (b : Nat) (v0 v1 v2 v3 v4 v5 : Value) : World := (((((W.setCell ⟨b, 0, none⟩ v0).setCell ⟨b, 1, none⟩ v1).setCell ⟨b, 2, none⟩ v2).setCell ⟨b, 3, none⟩ v3).setCell ⟨b, 4, none⟩ v4).setCell ⟨b, 5, none⟩ v5
theorem Bk.sr6 {W : World} {b : Nat} {u0 u1 u2 u3 u4 u5 : Value} (h : Bk W b #[u0, u1, u2, u3, u4, u5]) (v0 v1 v2 v3 v4 v5 : Value) : Bk (Go.Proofs.YtacfhndledcmgaaGreatDoor.sr6 W b v0 v1 v2 v3 v4 v5) b #[v0, v1, v2, v3, v4, v5] := by
  have := (((((h.set 0 v0).set 1 v1).set 2 v2).set 3 v3).set 4 v4).set 5 v5
  simpa [Go.Proofs.YtacfhndledcmgaaGreatDoor.sr6] using this
theorem Bk.sr6_chg {W : World} {b P : Nat} {p : Nat} {u1 u2 u3 u4 u5 : Value} (h : Bk W b #[.int .u64 (p : Nat), u1, u2, u3, u4, u5]) (hp : p < WB) (hP : P < WB) (n1 : NoWB u1) (n2 : NoWB u2) (n3 : NoWB u3) (n4 : NoWB u4) (n5 : NoWB u5) (v1 v2 v3 v4 v5 : Value) : Chg (Blk b) W (Go.Proofs.YtacfhndledcmgaaGreatDoor.sr6 W b (.int .u64 (P : Nat)) v1 v2 v3 v4 v5) := by
  have h0 := h.set 0 (.int .u64 (P : Nat))
  have k0 : Chg (Blk b) W (W.setCell ⟨b, 0, none⟩ (.int .u64 (P : Nat))) := (Chg.refl (Blk b) W).setW ⟨p, hp, h.cell 0⟩ hP (fun _ => rfl)
  have k1 := h0.set_chg (u := u1) 1 v1 (by simp) n1
  have h1 := h0.set 1 v1
  have k2 := h1.set_chg (u := u2) 2 v2 (by simp) n2
  have h2 := h1.set 2 v2
  have k3 := h2.set_chg (u := u3) 3 v3 (by simp) n3
  have h3 := h2.set 3 v3
  have k4 := h3.set_chg (u := u4) 4 v4 (by simp) n4
  have h4 := h3.set 4 v4
  have k5 := h4.set_chg (u := u5) 5 v5 (by simp) n5
  exact ((((k0.then k1 (fun _ _ _ f => f)).then k2 (fun _ _ _ f => f)).then k3 (fun _ _ _ f => f)).then k4 (fun _ _ _ f => f)).then k5 (fun _ _ _ f => f)
theorem RdU.chgB {S : Nat → Nat → Prop} {w w' : World} {A : Option Addr} {l : List Nat} (h : RdU w A l) (hc : Chg S w w') (hd : ∀ ad, A = some ad → 0 < l.length → ∀ o, ¬ S ad.block o) : RdU w' A l := by
  intro i hi
  obtain ⟨ad, h1, h2⟩ := h i hi
  have hb : (ad.add i).block = ad.block := by unfold Addr.add; split <;> rfl
  have hlt := World.block_lt_of_cell? _ _ h2
  exact ⟨ad, h1, (cell_of_block (hc.block _ hlt (fun o f => hd ad h1 (by omega) o (hb ▸ f)))).trans h2⟩
/-- What impl.real says of a finite Float. -/
def RealPost (P M : Nat) (n : Bool) (O : Nat) (E : Int) (w : World) (e : Ending) (w' : World) : Prop :=
  ∃ A c l, e = .returned (.agg #[.int .u64 P, .int .i64 M, .int .i64 1, .bool n, .slice A (List.length l) c, .int .i64 E]) ∧ RdU w' A l ∧ List.length l ≤ c ∧ CanW l ∧ Vl l = O ∧ Chg No w w' ∧ (∀ ad, A = some ad → 0 < List.length l → w.heap.size ≤ ad.block)
set_option maxRecDepth 100000 in
set_option maxHeartbeats 4000000 in
theorem impl_real (base b P M : Nat) (n : Bool) (X : Nat) (E : Int) (xb xo m xc t O : Nat) (w : World) (h : FlX w base b P M n X E xb xo m xc) (hX : X = 2 ^ t * O) (hO : O % 2 = 1) (hm : m ≤ 1000) (hP : blen X ≤ P) (hP2 : P < 2000) (hM : M < 6) (hE1 : -15000 ≤ E) (hE2 : E ≤ 15000) (hg : Glob w) (h17 : 17 ≤ w.heap.size) :
    Calls Tryz.prog 83 #[.pointer (some ⟨b, 0, none⟩)] w (RealPost P M n O (E + t) w) := by
  have H1 := Lib.hid (fun W (hW : Chg No w W) => float_Prec b P M 0 1 n _ _ W (h.fl.chg hW (fun _ f => f)) (by omega))
  have H2 := Lib.hid (fun W (hW : Chg No w W) => float_Mode b P M 0 1 n _ _ W (h.fl.chg hW (fun _ f => f)))
  have H3 := Lib.hid (fun W (hW : Chg No w W) => float_Signbit b P M 0 1 n _ _ W (h.fl.chg hW (fun _ f => f)))
  have H4 := Lib.hid (fun W (hW : Chg No w W) => float_IsInf b P M 0 n _ _ W (h.fl.chg hW (fun _ f => f)))
  have H5 := Lib.hid (fun W (hW : Chg No w W) => float_Sign b P M 0 n _ _ W (h.fl.chg hW (fun _ f => f)))
  have K0 := (Chg.refl No w).alloc (.cells #[.int .u64 0, .int .i64 0, .int .i64 0, .bool false, .slice none 0 0, .int .i64 0] 43)
  have HK0 := Lib.hid K0
  have C1 := H1.out _ K0
  have C2 := H2.out _ K0
  have C3 := H3.out _ K0
  have D1 := Lib.hid C1
  have D2 := Lib.hid C2
  have D3 := Lib.hid C3
  have HH := Lib.hid h
  clear C1 C2 C3 K0 h
  go_enter Tryz.func83, Tryz.ntmps83
  go_wp2_with fail
  refine D1.out.mono ?_
  rintro e w1 ⟨rfl, rfl⟩
  go_wp2_with fail
  refine D2.out.mono ?_
  rintro e w1 ⟨rfl, rfl⟩
  have eM : IntKind.i64.wrap (M : Int) = (M : Int) := IntWalk.i64_in _ (by omega)
  go_wp2_with fail
  refine D3.out.mono ?_
  rintro e w1 ⟨rfl, rfl⟩
  go_upto_region 2 with fail
  obtain ⟨W1, hW1⟩ : ∃ W1, W1 = ((w.alloc (.cells #[.int .u64 0, .int .i64 0, .int .i64 0, .bool false, .slice none 0 0, .int .i64 0] 43)).alloc (.cells #[.int .u64 (P : Nat), .int .i64 (M : Nat), .int .i64 0, .bool n, .slice none 0 0, .int .i64 0] 43)) := ⟨_, rfl⟩
  rw [← hW1]
  have K1 : Chg No w W1 := by rw [hW1]; exact ((Chg.refl No w).alloc _).alloc _
  have BR : Bk W1 w.heap.size #[.int .u64 0, .int .i64 0, .int .i64 0, .bool false, .slice none 0 0, .int .i64 0] := by rw [hW1]; exact (Bk.new w _ 43).chg ((Chg.refl No _).alloc _) (fun _ f => f)
  have BO : Bk W1 (w.heap.size + 1) #[.int .u64 (P : Nat), .int .i64 (M : Nat), .int .i64 0, .bool n, .slice none 0 0, .int .i64 0] := by
    have := Bk.new (w.alloc (.cells #[.int .u64 0, .int .i64 0, .int .i64 0, .bool false, .slice none 0 0, .int .i64 0] 43)) #[.int .u64 (P : Nat), .int .i64 (M : Nat), .int .i64 0, .bool n, .slice none 0 0, .int .i64 0] 43
    rw [hW1]; simpa using this
  have hsz : W1.heap.size = w.heap.size + 2 := by rw [hW1]; simp
  have HK1 := Lib.hid K1
  have HBR := Lib.hid BR
  have HBO := Lib.hid BO
  have HSZ := Lib.hid hsz
  have D4 := Lib.hid (H4.out W1 K1)
  have D5 := Lib.hid (H5.out W1 K1)
  clear hW1 K1 BR BO hsz D1 D2 D3 H1 H2 H3 H4 H5 HK0
  go_wp2_with fail
  refine D4.out.mono ?_
  rintro e w2 ⟨rfl, rfl⟩
  have tsn : (((if n then -1 else 1 : Int)) != 0) = true := by cases n <;> rfl
  go_wp2_with fail
  refine D5.out.mono ?_
  rintro e w2 ⟨rfl, rfl⟩
  obtain ⟨sn, hsn⟩ : ∃ sn : Int, sn = if n then -1 else 1 := ⟨_, rfl⟩
  rw [← hsn] at tsn ⊢
  clear hsn
  go_upto_region 6 with fail
  obtain ⟨W2, hW2⟩ : ∃ W2, W2 = W1.alloc (.cells #[.int .u32 0, .int .u8 0, .int .i8 0, .int .u8 0, .bool false, .slice none 0 0, .int .i32 0] 176) := ⟨_, rfl⟩
  rw [← hW2]
  have K12 : Chg No W1 W2 := by rw [hW2]; exact (Chg.refl No W1).alloc _
  have FN : Fl W2 W1.heap.size 0 0 0 0 false (.slice none 0 0) 0 := by rw [hW2]; exact Fl.new W1 (by have := HSZ.out; omega)
  have K2 := HK1.out.then K12 (fun _ _ _ f => f)
  have h2 := HH.out.chg K2 (fun _ f => f) (fun _ f => f)
  have hbl := HH.out.fl.lt
  have hxl := HH.out.nt.1.plain.lt
  have hsz := HSZ.out
  obtain ⟨mb, hmb⟩ : ∃ mb, mb = W1.heap.size := ⟨_, rfl⟩
  rw [← hmb] at FN ⊢
  have hME := float_MantExp mb 0 0 0 0 false 0 base b P M n X E xb xo m xc W2 FN h2 hm (by omega) (by omega) (Nat.le_trans h17 K2.size) (by omega) (by omega)
  have HME := Lib.hid hME
  have HK2 := Lib.hid K2
  have HBR2 := Lib.hid (HBR.out.chg K12 (fun _ f => f))
  have HBO2 := Lib.hid (HBO.out.chg K12 (fun _ f => f))
  have HMB := Lib.hid (And.intro hmb hsz)
  have HBX := Lib.hid (And.intro hbl hxl)
  have HMB2 := Lib.hid FN.lt
  clear hW2 K12 FN K2 h2 hME hmb hsz hbl hxl HBR HBO
  go_wp2_with fail
  refine HME.out.mono ?_
  rintro e w3 ⟨rfl, yb, yo, yc, hy, hk3⟩
  have hmbw : w.heap.size ≤ mb := by have := HMB.out.1; have := HMB.out.2; omega
  have K3 := HK2.out.then hk3 (S := No) (fun x o hx h => by have h1 : x = mb := h; omega)
  have hg3 := hg.no K3
  have hMP := float_MinPrec base b P M n X E xb xo m xc t O w3 (HH.out.chg K3 (fun _ f => f) (fun _ f => f)) hX hO hm hg3
  have HMP := Lib.hid hMP
  have HY := Lib.hid hy
  have HK3 := Lib.hid K3
  have HBR3 := Lib.hid (HBR2.out.chg hk3 (fun o h => by have h1 : w.heap.size = mb := h; have := HMB.out.1; have := HMB.out.2; omega))
  have HBO3 := Lib.hid (HBO2.out.chg hk3 (fun o h => by have h1 : w.heap.size + 1 = mb := h; have := HMB.out.1; have := HMB.out.2; omega))
  have hO0 : O ≠ 0 := by omega
  have hbO : blen X = t + blen O := by rw [hX]; exact blen_pow hO0
  obtain ⟨p, hp⟩ : ∃ p, p = blen O := ⟨_, rfl⟩
  rw [← hp] at HMP
  have hpP : p ≤ P := by omega
  have ep : IntKind.i64.wrap (p : Int) = (p : Int) := IntWalk.i64_in _ (by omega)
  obtain ⟨EE, hEE⟩ : ∃ EE : Int, EE = (blen X : Int) + E := ⟨_, rfl⟩
  rw [← hEE]
  have eE : IntKind.i64.wrap (EE - (p : Int)) = E + t := by rw [IntKind.wrap_i64]; omega
  have hEt : (t : Int) + (-(blen X : Int) + (p : Int)) = 0 := by omega
  have HAR := Lib.hid (And.intro hEt (And.intro hbO hp))
  have HXX := Lib.hid (And.intro hX hO)
  have HP := Lib.hid hP
  have hXP : blen X < 60000 := by omega
  have HXP := Lib.hid hXP
  clear hy hk3 K3 hg3 hMP HBR2 HBO2 HME hO0 hbO hp hEE hEt hX hO hP hXP
  go_wp2_with fail
  refine HMP.out.mono ?_
  rintro e w4 ⟨rfl, hd⟩
  obtain ⟨kk, rfl⟩ := hd
  go_upto_region 8 with fail
  have k34 : Chg No w3 (w3.drewN kk) := (Chg.refl No w3).drewN kk
  have HK4 := Lib.hid (HK3.out.then k34 (fun _ _ _ f => f))
  have HY4 := Lib.hid (HY.out.chg k34 (fun _ f => f) (fun _ f => f))
  have HBR4 := Lib.hid (HBR3.out.chg k34 (fun _ f => f))
  have HBO4 := Lib.hid (HBO3.out.chg k34 (fun _ f => f))
  have hs34 : w3.heap.size = (w3.drewN kk).heap.size := rfl
  generalize w3.drewN kk = w4 at *
  clear k34 HK3 HBR3 HBO3
  obtain ⟨W5, hW5⟩ : ∃ W5, W5 = w4.alloc (.cells #[.int .u32 0, .int .u8 0, .int .i8 0, .int .u8 0, .bool false, .slice none 0 0, .int .i32 0] 176) := ⟨_, rfl⟩
  have K45 : Chg No w4 W5 := by rw [hW5]; exact (Chg.refl No w4).alloc _
  have hs4 := HK4.out.size
  have hmb4 := HY4.out.fl.lt
  have hyb4 := HY4.out.nt.1.plain.lt
  have hsz4 : w.heap.size + 2 ≤ w4.heap.size := by have := HMB.out.1; have := HMB.out.2; omega
  obtain ⟨sb, hsb⟩ : ∃ sb, sb = w4.heap.size := ⟨_, rfl⟩
  have FN : Fl W5 sb 0 0 0 0 false (.slice none 0 0) 0 := by rw [hW5, hsb]; exact Fl.new w4 (by omega)
  have K5 := HK4.out.then K45 (fun _ _ _ f => f)
  have hSM := float_SetMantExp sb 0 0 0 0 false 0 _ mb P M n X (-(blen X : Int)) (p : Int) yb yo m yc W5 FN (HY4.out.chg K45 (fun _ f => f) (fun _ f => f)) hm (by omega) (by omega) HP.out (by omega) hM (by have := HP.out; omega) (by omega) (by omega) (by omega) (Nat.le_trans h17 K5.size)
  have HSM := Lib.hid hSM
  have HK5 := Lib.hid K5
  have HBR5 := Lib.hid (HBR4.out.chg K45 (fun _ f => f))
  have HBO5 := Lib.hid (HBO4.out.chg K45 (fun _ f => f))
  have HSB := Lib.hid (And.intro hsb hsz4)
  have HW5 := Lib.hid hW5
  have HSS : Hid (w4.heap.size ≤ W5.heap.size) := Lib.hid K45.size
  clear hW5 K45 hs4 hmb4 hyb4 hsz4 FN K5 hSM HBR4 HBO4 hsb
  go_wp2_with fail
  rw [← HW5.out, ← HSB.out.1]
  refine HSM.out.mono ?_
  rintro e w6 ⟨rfl, zb, zo, zc, hz, hk6⟩
  have K6 := HK5.out.then hk6 (S := No) (fun x o hx h => by have h1 : x = sb := h; have := HSB.out.1; have := HSB.out.2; omega)
  have hIN := float_Int _ sb P M n X _ zb zo m zc t O w6 hz HXX.out.1 HXX.out.2 HAR.out.1 hm (hg.no K6) (Nat.le_trans h17 K6.size)
  have HIN := Lib.hid hIN
  have HK6 := Lib.hid K6
  have HK67 : Hid (∀ {w7 : World}, Chg No w6 w7 → w.heap.size + 2 ≤ w7.heap.size) := Lib.hid (fun h => by have h1 := h.size; have h2 := hk6.size; have h3 := HSB.out.2; have h4 := HSS.out; omega)
  have HBR6 := Lib.hid (HBR5.out.chg hk6 (fun o h => by have h1 : w.heap.size = sb := h; have := HSB.out.1; have := HSB.out.2; omega))
  have HBO6 := Lib.hid (HBO5.out.chg hk6 (fun o h => by have h1 : w.heap.size + 1 = sb := h; have := HSB.out.1; have := HSB.out.2; omega))
  have HXL := Lib.hid (And.intro hz.lo hz.hi)
  clear hz hk6 K6 hIN HBR5 HBO5 HSM
  go_wp2_with fail
  refine HIN.out.mono ?_
  rintro e w7 ⟨v, rfl, hi7, hn7, hk7⟩
  have K7 := HK6.out.then hk7 (fun _ _ _ f => f)
  have hO0 : O ≠ 0 := by have := HXX.out.2; omega
  have hSO : Small O := by
    have h1 := (blen_spec hO0).2.2
    have h2 : blen O ≤ 64 * m := by have := HXL.out.2; have := HAR.out.2.1; omega
    unfold Small
    obtain ⟨T, hT⟩ : ∃ T : Nat, T = 1000 := ⟨_, rfl⟩
    rw [← hT, WB_two]
    exact Nat.lt_of_lt_of_le h1 (Nat.pow_le_pow_right (by decide) (by omega))
  have HWO := Lib.hid (impl_wordsOf w6.heap.size n v O w7 hi7 hn7 hO0 hSO (Nat.le_trans h17 K7.size))
  have HK7 := Lib.hid K7
  have HFS : Hid (w.heap.size + 2 ≤ w7.heap.size) := Lib.hid (by have h1 := HK67.out hk7; omega)
  have HBR7 := Lib.hid (HBR6.out.chg hk7 (fun _ f => f))
  have HBO7 := Lib.hid (HBO6.out.chg hk7 (fun _ f => f))
  clear hi7 hn7 hk7 K7 hO0 hSO HBR6 HBO6 HIN
  go_wp2_with fail
  refine HWO.out.mono ?_
  rintro e w8 ⟨r, rfl, l, hls, hcan, hvl, hk8, hfp⟩
  obtain ⟨A, c, rfl, hlc⟩ : ∃ A c, r = .slice A l.length c ∧ l.length ≤ c := by
    rcases hls.val with ⟨rfl, rfl⟩ | ⟨b', o', c', rfl, hn, _⟩
    · exact ⟨_, _, rfl, Nat.le_refl _⟩
    · exact ⟨_, _, rfl, hn.le⟩
  have hrd : RdU w8 A l := by
    rcases hls with ⟨h1, rfl⟩ | ⟨b', o', c', h1, hn, hv⟩
    · exact fun i hi => absurd hi (by simp)
    · intro i hi
      cases h1
      refine ⟨_, rfl, ?_⟩
      have h2 := (hn.isI i (by have := hn.le; omega)).cell
      rw [hv i hi] at h2
      unfold Addr.add
      split
      · next h3 =>
        subst h3; simpa using h2
      · exact h2
  have K8 := HK7.out.then hk8 (fun _ _ _ f => f)
  have BR := HBR7.out.chg hk8 (fun _ f => f)
  have BO := HBO7.out.chg hk8 (fun _ f => f)
  have o2 : w8.cell? ⟨w.heap.size + 1, 2, none⟩ = some (.int .i64 0) := BO.cell 2
  have o4 : w8.cell? ⟨w.heap.size + 1, 4, none⟩ = some (.slice none 0 0) := BO.cell 4
  have o5 : w8.cell? ⟨w.heap.size + 1, 5, none⟩ = some (.int .i64 0) := BO.cell 5
  have of := BO.plain.free
  have of2 := of 2
  have of4 := of 4
  have of5 := of 5
  have HF := Lib.hid (And.intro hrd (And.intro hlc (And.intro hcan (And.intro hvl hfp))))
  have HK8 := Lib.hid K8
  have HBR := Lib.hid BR
  have HBO := Lib.hid BO
  clear hls hcan hvl hk8 hfp hlc hrd K8 BR BO of HWO HBR7 HBO7
  go_upto_region 10 with fail
  have b1 := HBO.out.set 2 (.int .i64 1)
  have k1 := HBO.out.set_chg 2 (.int .i64 1) (u := .int .i64 0) rfl ⟨by simp, by simp⟩
  have b2 := b1.set 4 (.slice A l.length c)
  have k2 := b1.set_chg 4 (.slice A l.length c) (u := .slice none 0 0) (by simp) ⟨by simp, by simp⟩
  have b3 := b2.set 5 (.int .i64 (E + t))
  have k3 := b2.set_chg 5 (.int .i64 (E + t)) (u := .int .i64 0) (by simp) ⟨by simp, by simp⟩
  have k9 := (k1.then k2 (fun _ _ _ f => f)).then k3 (fun _ _ _ f => f)
  have hwl := HF.out.1
  generalize ((w8.setCell ⟨w.heap.size + 1, 2, none⟩ (.int .i64 1)).setCell ⟨w.heap.size + 1, 4, none⟩ (.slice A l.length c)).setCell ⟨w.heap.size + 1, 5, none⟩ (.int .i64 (E + t)) = w9 at *
  have hnb : ∀ x o, Fp (.slice A l.length c) x o → x ≠ w.heap.size + 1 ∧ x ≠ w.heap.size := fun x o f => by
    have h1 := HF.out.2.2.2.2 x o f
    have h2 := HK7.out.size
    have h3 := HSB.out.2
    have := HFS.out
    omega
  have BO9 : Bk w9 (w.heap.size + 1) #[.int .u64 (P : Nat), .int .i64 (M : Nat), .int .i64 1, .bool n, .slice A l.length c, .int .i64 (E + t)] := by simpa using b3
  have BR9 := HBR.out.chg k9 (fun o h => by have h1 : w.heap.size = w.heap.size + 1 := h; omega)
  have p0 : w9.cell? ⟨w.heap.size + 1, 0, none⟩ = some (.int .u64 (P : Nat)) := BO9.cell 0
  have p1 : w9.cell? ⟨w.heap.size + 1, 1, none⟩ = some (.int .i64 (M : Nat)) := BO9.cell 1
  have p2 : w9.cell? ⟨w.heap.size + 1, 2, none⟩ = some (.int .i64 1) := BO9.cell 2
  have p3 : w9.cell? ⟨w.heap.size + 1, 3, none⟩ = some (.bool n) := BO9.cell 3
  have p4 : w9.cell? ⟨w.heap.size + 1, 4, none⟩ = some (.slice A l.length c) := BO9.cell 4
  have p5 : w9.cell? ⟨w.heap.size + 1, 5, none⟩ = some (.int .i64 (E + t)) := BO9.cell 5
  have r0 : w9.cell? ⟨w.heap.size, 0, none⟩ = some (.int .u64 0) := BR9.cell 0
  have r1 : w9.cell? ⟨w.heap.size, 1, none⟩ = some (.int .i64 0) := BR9.cell 1
  have r2 : w9.cell? ⟨w.heap.size, 2, none⟩ = some (.int .i64 0) := BR9.cell 2
  have r3 : w9.cell? ⟨w.heap.size, 3, none⟩ = some (.bool false) := BR9.cell 3
  have r4 : w9.cell? ⟨w.heap.size, 4, none⟩ = some (.slice none 0 0) := BR9.cell 4
  have r5 : w9.cell? ⟨w.heap.size, 5, none⟩ = some (.int .i64 0) := BR9.cell 5
  have fr := BR9.plain.free
  have fr0 := fr 0
  have fr1 := fr 1
  have fr2 := fr 2
  have fr3 := fr 3
  have fr4 := fr 4
  have fr5 := fr 5
  have HB9 := Lib.hid BR9
  have HK9 := Lib.hid k9
  have HNB := Lib.hid hnb
  clear b1 b2 b3 k1 k2 k3 k9 BO9 BR9 fr hnb o2 o4 o5 of2 of4 of5
  go_wp2_with fail
  have B10 := HB9.out.sr6 (.int .u64 (P : Nat)) (.int .i64 (M : Nat)) (.int .i64 1) (.bool n) (.slice A l.length c) (.int .i64 (E + t))
  have K10 := HB9.out.sr6_chg (p := 0) (P := P) (by decide) (Nat.lt_trans hP2 (by decide)) ⟨by simp, by simp⟩ ⟨by simp, by simp⟩ ⟨by simp, by simp⟩ ⟨by simp, by simp⟩ ⟨by simp, by simp⟩ (.int .i64 (M : Nat)) (.int .i64 1) (.bool n) (.slice A l.length c) (.int .i64 (E + t))
  have hfp : ∀ ad, A = some ad → 0 < l.length → ad.block ≠ w.heap.size + 1 ∧ ad.block ≠ w.heap.size := fun ad e h0 => by
    subst e
    exact HNB.out ad.block ad.off ⟨rfl, Nat.le_refl _, by show ad.off < ad.off + c; have := HF.out.2.1; omega⟩
  refine bodyPost_ret (v := .agg #[.int .u64 (P : Nat), .int .i64 (M : Nat), .int .i64 1, .bool n, .slice A l.length c, .int .i64 (E + t)]) ?_ rfl ⟨A, c, l, rfl, ?_, HF.out.2.1, HF.out.2.2.1, HF.out.2.2.2.1, ?_, fun ad e h0 => ?_⟩
  · have hres : Tryz.f83.results = #[.cell 2 43] := rfl
    simp [results, hres, asAddr]
    exact load43 _ _ _ _ _ _ _ _ (B10.cell 0) (B10.cell 1) (B10.cell 2) (B10.cell 3) (B10.cell 4) (B10.cell 5)
  · exact (HF.out.1.chgB HK9.out (fun ad e h0 o h => (hfp ad e h0).1 h)).chgB K10 (fun ad e h0 o h => (hfp ad e h0).2 h)
  · exact (HK8.out.then HK9.out (fun x o hx h => by have h1 : x = w.heap.size + 1 := h; omega)).then K10 (fun x o hx h => by have h1 : x = w.heap.size := h; omega)
  · subst e
    exact Nat.le_trans HK7.out.size (HF.out.2.2.2.2 ad.block ad.off ⟨rfl, Nat.le_refl _, by show ad.off < ad.off + c; have := HF.out.2.1; omega⟩)
/-- What impl.Parse says of a text that is a number N times 2 to E. -/
def IPost (P M : Nat) (n : Bool) (N : Nat) (E : Int) (bb : Nat) (w : World) (e : Ending) (w' : World) : Prop :=
  ∃ A c l T O, e = .returned (.tuple #[.agg #[.int .u64 P, .int .i64 M, .int .i64 1, .bool n, .slice A (List.length l) c, .int .i64 (E + (T : Nat))], .int .i64 0, .int .i64 bb, .bool true]) ∧ N = 2 ^ T * O ∧ O % 2 = 1 ∧ RdU w' A l ∧ List.length l ≤ c ∧ CanW l ∧ Vl l = O ∧ Chg No w w' ∧ (∀ ad, A = some ad → 0 < List.length l → w.heap.size ≤ ad.block)
theorem odd_part (X : Nat) (h : X ≠ 0) : ∃ t O, X = 2 ^ t * O ∧ O % 2 = 1 := by
  induction X using Nat.strongRecOn with
  | ind X ih =>
    by_cases e : X % 2 = 1
    · exact ⟨0, X, by simp, e⟩
    · obtain ⟨t, O, h1, h2⟩ := ih (X / 2) (by omega) (by omega)
      exact ⟨t + 1, O, by rw [Nat.pow_succ, Nat.mul_assoc, Nat.mul_left_comm, ← h1]; omega, h2⟩
set_option maxRecDepth 100000 in
set_option maxHeartbeats 4000000 in
theorem impl_Parse (bs P M : Nat) (n : Bool) (N : Nat) (E : Int) (bb : Nat) (l : List Nat) (w : World) (hP0 : 0 < P) (hP2 : P < 2000) (hM : M < 6) (hN : N ≠ 0) (hE1 : -10000 ≤ E) (hE2 : E ≤ 10000) (hNb : blen N ≤ 3000) (hg : Glob w) (h17 : 17 ≤ w.heap.size)
    (hPa : ∀ W b, Chg No w W → w.heap.size ≤ b → b < W.heap.size → Fl W b P M 0 0 false (.slice none 0 0) 0 → Calls Tryz.prog 82 #[.pointer (some ⟨b, 0, none⟩), .string (txt l), .int .i64 bs] W (PaPost b P M n N E bb W)) :
    Calls Tryz.prog 42 #[.string (txt l), .int .i64 bs, .int .u64 P, .int .i64 M] w (IPost P M n N E bb w) := by
  obtain ⟨W1, hW1⟩ : ∃ W1, W1 = w.alloc (.cells #[.int .u64 0, .int .i64 0, .int .i64 0, .bool false, .slice none 0 0, .int .i64 0] 43) := ⟨_, rfl⟩
  have K1 : Chg No w W1 := by rw [hW1]; exact (Chg.refl No w).alloc _
  have BR : Bk W1 w.heap.size #[.int .u64 0, .int .i64 0, .int .i64 0, .bool false, .slice none 0 0, .int .i64 0] := by rw [hW1]; exact Bk.new w _ 43
  have hsz : W1.heap.size = w.heap.size + 1 := by rw [hW1]; simp
  have HF := Lib.hid (impl_fresh P M W1 hP0 (by omega) hM (by omega))
  have HW := Lib.hid hW1
  have HK1 := Lib.hid K1
  have HBR := Lib.hid BR
  have HPa := Lib.hid hPa
  have HSZ := Lib.hid hsz
  obtain ⟨tx, htx⟩ : ∃ tx, tx = txt l := ⟨_, rfl⟩
  rw [← htx] at HPa ⊢
  clear hW1 K1 BR hsz hPa htx
  go_enter Tryz.func42, Tryz.ntmps42
  go_wp2_with fail
  rw [← HW.out]
  refine HF.out.mono ?_
  rintro e w2 ⟨rfl, hf2, hk2⟩
  have K2 := HK1.out.then hk2 (fun _ _ _ f => f)
  have HP2 := Lib.hid (HPa.out w2 W1.heap.size K2 (by have := HSZ.out; omega) hf2.lt hf2)
  have HK2 := Lib.hid K2
  have HBR2 := Lib.hid (HBR.out.chg hk2 (fun _ f => f))
  clear hf2 hk2 K2 HBR HF HPa
  go_wp2_with fail
  refine HP2.out.mono ?_
  rintro e w3 ⟨rfl, ⟨N', k, xb, xo, m, xc, hN', hBP, hx⟩, hk3⟩
  obtain ⟨b, hb⟩ : ∃ b, b = W1.heap.size := ⟨_, rfl⟩
  rw [← hb] at hx hk3 ⊢
  have hbw : w.heap.size < b := by have := HSZ.out; omega
  have K3 := HK2.out.then hk3 (S := No) (fun x o hh h => by have h1 : x = b := h; omega)
  have hX0 := hx.X0
  obtain ⟨t, O, hX, hO⟩ := odd_part N' hX0
  have hkb : (k : Int) ≤ 3000 := by
    have h1 : blen N = k + blen N' := by rw [hN', Nat.mul_comm]; exact blen_pow hX0
    omega
  have hR := impl_real _ b P M n N' (E + (k : Nat)) xb xo m xc t O w3 hx hX hO (by have := hx.lo; omega) hBP hP2 hM (by omega) (by omega) (hg.no K3) (Nat.le_trans h17 K3.size)
  have HR := Lib.hid hR
  have HX := Lib.hid hx
  have HK3 := Lib.hid K3
  have HBR3 := Lib.hid (HBR2.out.chg hk3 (fun o h => by have h1 : w.heap.size = b := h; omega))
  have HNT : Hid (N = 2 ^ (k + t) * O ∧ O % 2 = 1 ∧ E + (k : Nat) + (t : Int) = E + ((k + t : Nat) : Int)) := Lib.hid ⟨by rw [hN', hX, Nat.mul_comm, ← Nat.mul_assoc, ← Nat.pow_add], hO, by omega⟩
  have HB := Lib.hid (And.intro hb hbw)
  clear hN' hBP hx hk3 K3 hX0 hX hO hkb hR hb hbw HP2 HBR2
  go_wp2_with fail
  refine HR.out.mono ?_
  rintro e w4 ⟨A, c, lw, rfl, hrd, hlc, hcan, hvl, hk4, hnew⟩
  have K4 := HK3.out.then hk4 (fun _ _ _ f => f)
  have HAc := Lib.hid (float_Acc b P M 0 1 n _ _ w4 (HX.out.fl.chg hk4 (fun _ f => f)))
  have BR4 := HBR3.out.chg hk4 (fun _ f => f)
  have HF4 := Lib.hid (And.intro hrd (And.intro hlc (And.intro hcan (And.intro hvl hnew))))
  have HK4 := Lib.hid K4
  have HBR4 := Lib.hid BR4
  clear hrd hlc hcan hvl hk4 hnew K4 BR4 HBR3 HR
  go_wp2_with fail
  refine HAc.out.mono ?_
  rintro e w5 ⟨rfl, rfl⟩
  have r0 : w4.cell? ⟨w.heap.size, 0, none⟩ = some (.int .u64 0) := HBR4.out.cell 0
  have r1 : w4.cell? ⟨w.heap.size, 1, none⟩ = some (.int .i64 0) := HBR4.out.cell 1
  have r2 : w4.cell? ⟨w.heap.size, 2, none⟩ = some (.int .i64 0) := HBR4.out.cell 2
  have r3 : w4.cell? ⟨w.heap.size, 3, none⟩ = some (.bool false) := HBR4.out.cell 3
  have r4 : w4.cell? ⟨w.heap.size, 4, none⟩ = some (.slice none 0 0) := HBR4.out.cell 4
  have r5 : w4.cell? ⟨w.heap.size, 5, none⟩ = some (.int .i64 0) := HBR4.out.cell 5
  have fr := HBR4.out.plain.free
  have fr0 := fr 0
  have fr1 := fr 1
  have fr2 := fr 2
  have fr3 := fr 3
  have fr4 := fr 4
  have fr5 := fr 5
  clear fr
  go_wp2_with fail
  have B10 := HBR4.out.sr6 (.int .u64 (P : Nat)) (.int .i64 (M : Nat)) (.int .i64 1) (.bool n) (.slice A lw.length c) (.int .i64 (E + (k : Nat) + (t : Nat)))
  have K10 := HBR4.out.sr6_chg (p := 0) (P := P) (by decide) (Nat.lt_trans hP2 (by decide)) ⟨by simp, by simp⟩ ⟨by simp, by simp⟩ ⟨by simp, by simp⟩ ⟨by simp, by simp⟩ ⟨by simp, by simp⟩ (.int .i64 (M : Nat)) (.int .i64 1) (.bool n) (.slice A lw.length c) (.int .i64 (E + (k : Nat) + (t : Nat)))
  obtain ⟨h1, h2, h3⟩ := HNT.out
  refine bodyPost_ret (v := .tuple #[.agg #[.int .u64 (P : Nat), .int .i64 (M : Nat), .int .i64 1, .bool n, .slice A lw.length c, .int .i64 (E + (k : Nat) + (t : Nat))], .int .i64 0, .int .i64 bb, .bool true]) ?_ rfl ⟨A, c, lw, k + t, O, by rw [← h3], h1, h2, ?_, HF4.out.2.1, HF4.out.2.2.1, HF4.out.2.2.2.1, ?_, fun ad e0 h0 => by have h4 := HF4.out.2.2.2.2 ad e0 h0; have h5 := HK3.out.size; omega⟩
  · have hres : Tryz.f42.results = #[.cell 8 43, .tmp 9, .tmp 10, .tmp 11] := rfl
    have hld := load43 _ _ _ _ _ _ _ _ (B10.cell 0) (B10.cell 1) (B10.cell 2) (B10.cell 3) (B10.cell 4) (B10.cell 5)
    unfold sr6 at hld
    simp [results, hres, asAddr]
    rw [hld]
    rfl
  · exact HF4.out.1.chgB K10 (fun ad e h0 o h => by
      have h4 := HF4.out.2.2.2.2 ad e h0
      have h5 := HK3.out.size
      have h6 : ad.block = w.heap.size := h
      have h7 := HB.out.2
      have h8 := HX.out.fl.lt
      omega)
  · exact HK4.out.then K10 (fun x o hx h => by have h1 : x = w.heap.size := h; omega)
end Go.Proofs.YtacfhndledcmgaaGreatDoor
