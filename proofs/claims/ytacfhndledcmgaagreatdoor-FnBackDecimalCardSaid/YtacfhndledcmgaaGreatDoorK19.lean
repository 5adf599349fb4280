/- Lemmas for the law FnBackDecimal: roundShortest. Conditions: those in each theorem; none besides. -/
import Derived.Test.YtacfhndledcmgaaGreatDoorK18
import Derived.Deep.RegionHeld3
set_option linter.unusedVariables false
set_option linter.unusedSimpArgs false
namespace Go.Proofs.YtacfhndledcmgaaGreatDoor
open Go.RowKit
theorem and_two (a : Nat) : a &&& 2 = 2 * (a / 2 % 2) := by
  apply Nat.eq_of_testBit_eq
  intro i
  have h2 : 2 * (a / 2 % 2) = 0 ∨ 2 * (a / 2 % 2) = 2 := by omega
  rw [Nat.testBit_and]
  rcases (show i = 0 ∨ i = 1 ∨ 2 ≤ i by omega) with rfl | rfl | h
  · have : (2 : Nat).testBit 0 = false := by decide
    rw [this, Bool.and_false, Nat.testBit_eq_decide_div_mod_eq]
    symm; apply decide_eq_false; omega
  · have : (2 : Nat).testBit 1 = true := by decide
    rw [this, Bool.and_true, Nat.testBit_eq_decide_div_mod_eq, Nat.testBit_eq_decide_div_mod_eq]
    congr 1; apply propext; omega
  · have h4 : 4 ≤ 2 ^ i := Nat.le_trans (show 4 ≤ 2 ^ 2 by decide) (Nat.pow_le_pow_right (by decide) h)
    have h5 : (2 : Nat).testBit i = false := Nat.testBit_lt_two_pow (by omega)
    rw [h5, Bool.and_false]
    symm; exact Nat.testBit_lt_two_pow (by omega)
theorem and2 {a : Nat} (h : a < WB) : bits BinOp.and .u64 (a : Int) 2 = ((2 * (a / 2 % 2) : Nat) : Int) := by
  rw [show (2 : Int) = ((2 : Nat) : Int) from rfl, bits_and_u64_nat a 2 h (by decide), and_two]
theorem Nt.pos {w : World} {v : Value} {X : Nat} (h : Nt w v X) (hX : Small X) (h0 : X ≠ 0) : ∃ b o n c, v = .slice (some ⟨b, o, none⟩) n c ∧ NtAt w b o n c X ∧ 0 < n ∧ n ≤ 1000 := by
  obtain ⟨a, n, c, rfl, h1, h2, -, -⟩ := h.cases hX
  have hn : 0 < n := by
    rcases Nat.eq_zero_or_pos n with h | h
    · exact absurd (h2 h) h0
    · exact h
  obtain ⟨b, o, rfl, hh⟩ := h.at hn
  exact ⟨b, o, n, c, rfl, hh, hn, h1⟩
/-- The first word of a number. -/
theorem NtAt.word0 {w : World} {b o n c X : Nat} (h : NtAt w b o n c X) (hn : 0 < n) : w.cell? ⟨b, o, none⟩ = some (.int .u64 (X % WB : Nat)) := by
  have h1 := (h.1.isW 0 (by have := h.1.le; omega)).cell
  rw [Nat.add_zero] at h1
  have h2 : X % WB = wd w b o := by
    rw [← h.2.1]
    have hlt := (h.1.isW 0 (by have := h.1.le; omega)).lt
    rw [Nat.add_zero] at hlt
    obtain ⟨k, rfl⟩ : ∃ k, n = k + 1 := ⟨n - 1, by omega⟩
    have key : ∀ k, Val w b o (k + 1) % WB = wd w b o := by
      intro k
      induction k with
      | zero =>
        rw [Val_succ]
        simp [Val, V]
        exact Nat.mod_eq_of_lt hlt
      | succ k ih =>
        rw [Val_succ, Nat.pow_succ, ← Nat.mul_assoc, Nat.add_mul_mod_self_right]; exact ih
    exact key k
  rw [h2]; exact h1
/-- The mantissa with one bit more than the precision. -/
theorem upTo_shift_l {X m P G : Nat} (hG : G = P + 1 - blen X) (h1 : blen X ≤ 64 * m) (hb : blen X ≤ P) (h : 64 * m ≤ P + 1) : upTo X m * 2 ^ (P + 1 - 64 * m) = X * 2 ^ G := by
  unfold upTo
  rw [Nat.mul_assoc, ← Nat.pow_add]; congr 2; omega
theorem upTo_shift_r {X m P G : Nat} (hG : G = P + 1 - blen X) (h1 : blen X ≤ 64 * m) (hb : blen X ≤ P) (h : P + 1 ≤ 64 * m) : upTo X m / 2 ^ (64 * m - (P + 1)) = X * 2 ^ G := by
  unfold upTo
  rw [show 64 * m - blen X = G + (64 * m - (P + 1)) by omega, Nat.pow_add, ← Nat.mul_assoc, Nat.mul_div_cancel _ (Nat.two_pow_pos _)]
/-- A decimal made of a number: 'init' on new cells. -/
theorem dec_init_new (b mb mo mn mc Y : Nat) (sh : Int) (w : World) (hm : NtAt w mb mo mn mc Y) (hmn : 0 < mn) (hmn2 : mn ≤ 1000) (hY0 : Y ≠ 0) (hY : Y ≤ 2 ^ 101) (hb : Bk w b #[.slice none 0 0, .int .i64 0]) (h17 : 17 ≤ b) (hg : Glob w) (hS1 : -1000 ≤ sh) (hS2 : sh ≤ 200) :
    Calls Tryz.prog 193 #[.pointer (some ⟨b, 0, none⟩), .slice (some ⟨mb, mo, none⟩) mn mc, .int .i64 sh] w fun e w' => e = .returned (.tuple #[]) ∧ ∃ xb xo xc ds x, DecIs w' b Y sh xb xo xc ds x ∧ w.heap.size ≤ xb ∧ Chg (Blk b) w w' := by
  have hlt : Y * 2 ^ sh.toNat < WB ^ 8 := by
    obtain ⟨A, hA⟩ : ∃ A : Nat, A = 200 := ⟨_, rfl⟩
    have h1 : 2 ^ sh.toNat ≤ 2 ^ A := Nat.pow_le_pow_right (by decide) (by omega)
    have h2 : Y * 2 ^ sh.toNat ≤ 2 ^ 101 * 2 ^ A := Nat.mul_le_mul hY h1
    rw [← Nat.pow_add] at h2
    obtain ⟨B, hB⟩ : ∃ B : Nat, B = 8 := ⟨_, rfl⟩
    have h3 : WB ^ B = 2 ^ (64 * B) := by rw [show WB = 2 ^ 64 from rfl, ← Nat.pow_mul]
    rw [← hB, h3]
    exact Nat.lt_of_le_of_lt h2 (Nat.pow_lt_pow_right (by decide) (by omega))
  have hsm : Small (Y * 2 ^ sh.toNat) := by
    unfold Small
    obtain ⟨T, hT⟩ : ∃ T : Nat, T = 1000 := ⟨_, rfl⟩
    rw [← hT]
    exact Nat.lt_of_lt_of_le hlt (Nat.pow_le_pow_right (by decide) (by omega))
  exact dec_init b mb mo mn mc Y sh w hm hmn hmn2 hY0 (hb.cell 0) (hb.cell 1) hb.plain h17 hg (by omega) (by omega) hsm (fun A h1 h2 => itoaOk_small h1 (Nat.lt_of_le_of_lt h2 hlt))
theorem DecIs.pure {w : World} {b Y xb xo xc : Nat} {sh x : Int} {ds : List Nat} (h : DecIs w b Y sh xb xo xc ds x) : DecPure Y sh ds x :=
  ⟨h.2.1, h.2.2.1, h.2.2.2.1, h.2.2.2.2.1, h.1.d10, h.2.2.2.2.2.2.1, h.2.2.2.2.2.2.2⟩
theorem atD_nat (ds : List Nat) (i : Nat) : atD ds (i : Int) = 48 + ds.getD i 0 := by
  unfold atD; rw [if_neg (by omega)]; rfl
theorem dn_iff {ls ds : List Nat} {inc : Prop} {i ym yl ll : Nat} {inb : Bool} (h1 : ym = 48 + ds.getD i 0) (h2 : yl = 48 + ls.getD i 0) (hI : inb = true ↔ inc) (hl : ll = ls.length) :
    dnP ls ds inc i ↔ (yl ≠ ym ∨ (inb = true ∧ i + 1 = ll)) := by
  unfold dnP; rw [← hI, ← hl]
  constructor
  · rintro (h | h)
    · left; omega
    · exact .inr h
  · rintro (h | h)
    · left; omega
    · exact .inr h
theorem up_iff {us ds : List Nat} {inc : Prop} {i ym yu ul : Nat} {inb : Bool} (h1 : ym = 48 + ds.getD i 0) (h2 : yu = 48 + us.getD i 0) (hI : inb = true ↔ inc) (hl : ul = us.length) :
    upP us ds inc i ↔ (ym ≠ yu ∧ (inb = true ∨ ym + 1 < yu ∨ i + 1 < ul ∨ (ul ≤ i ∧ ym < 57))) := by
  unfold upP; rw [← hI, ← hl, h1, h2]
  have e1 : (48 + ds.getD i 0 ≠ 48 + us.getD i 0) ↔ (ds.getD i 0 ≠ us.getD i 0) := by omega
  have e2 : (48 + ds.getD i 0 + 1 < 48 + us.getD i 0) ↔ (ds.getD i 0 + 1 < us.getD i 0) := by omega
  have e3 : (48 + ds.getD i 0 < 57) ↔ (ds.getD i 0 < 9) := by omega
  rw [e1, e2, e3]
set_option maxRecDepth 100000 in
set_option maxHeartbeats 8000000 in
theorem dec_roundShortest (b yb yo yc : Nat) (ds : List Nat) (x : Int) (base fb P Md : Nat) (n : Bool) (X : Nat) (E t : Int) (G MM xb xo m xc : Nat) (w : World)
    (hd : DeX w b yb yo yc ds x) (ho : DOrd ds) (hdl : ds.length ≤ 100000) (hx1 : -100000000 ≤ x) (hx2 : x ≤ 20000) (hx : FlX w base fb P Md n X E xb xo m xc) (hg : Glob w)
    (hG : G = P + 1 - blen X) (ht : t = E - G) (hM : MM = X * 2 ^ G) (hX2 : 2 ≤ X) (hbl : blen X ≤ P) (hP : P ≤ 100) (hE1 : -200 ≤ E) (hE2 : E ≤ 200) :
    Calls Tryz.prog 195 #[.pointer (some ⟨b, 0, none⟩), .pointer (some ⟨fb, 0, none⟩)] w fun e w' => e = .returned (.tuple #[]) ∧ ∃ ds' x' ls us xl xu, DecPure (MM - 1) t ls xl ∧ DecPure (MM + 1) t us xu ∧ ShAll ds ls us x (MM / 2 % 2 = 0) ds' x' ∧ DeX w' b yb yo yc ds' x' ∧ Chg (DS b yb) w w' := by
  have h17 := hg.size
  have hX0 := hx.nt
  obtain ⟨f0, f1, f2, f3, f4, f5, f6, -, -, -, -, -⟩ := hx.fl
  have d0 := hd.c0
  have hne := hx.fl.lt
  have hmP : m ≤ 2 := by have := hx.lo; omega
  obtain ⟨bX, hbX⟩ : ∃ bX, bX = blen X := ⟨_, rfl⟩
  have hXne : X ≠ 0 := by omega
  have hblo := hx.lo
  have hbhi := hx.hi
  have hm0 := hx.m0
  have hupb : blen (upTo X m) = 64 * m := blen_upTo hXne hm0 hbhi
  have hMlt : MM < 2 ^ 101 := by
    rw [hM]
    have h1 := (blen_spec hXne).2.2
    have h2 : X * 2 ^ G < 2 ^ blen X * 2 ^ G := Nat.mul_lt_mul_of_pos_right h1 (Nat.two_pow_pos _)
    rw [← Nat.pow_add] at h2
    exact Nat.lt_of_lt_of_le h2 (Nat.pow_le_pow_right (by decide) (by omega))
  have hM4 : 4 ≤ MM := by
    rw [hM]
    have : 2 * 2 ≤ X * 2 ^ G := Nat.mul_le_mul hX2 (by
      have : 2 ^ 1 ≤ 2 ^ G := Nat.pow_le_pow_right (by decide) (by omega)
      omega)
    omega
  have hsmU : Small (upTo X m) := by
    have h1 := upTo_lt hXne hbhi
    unfold Small
    obtain ⟨T, hT⟩ : ∃ T : Nat, T = 1000 := ⟨_, rfl⟩
    rw [← hT]
    exact Nat.lt_of_lt_of_le h1 (Nat.pow_le_pow_right (by decide) (by omega))
  have HX := Lib.hid hx
  have HD := Lib.hid hd
  have HG := Lib.hid hg
  have hdl0 := ho.1
  rw [← hbX] at f6 hblo hbhi hbl hG
  obtain ⟨dl, hdl'⟩ : ∃ dl, dl = ds.length := ⟨_, rfl⟩
  rw [← hdl'] at d0 hdl0 hdl
  have HO := Lib.hid (And.intro ho hdl')
  have HMM := Lib.hid (And.intro hM (And.intro hMlt (And.intro hM4 (And.intro hX2 (And.intro hG (And.intro hbX (And.intro hupb hsmU)))))))
  have HT := Lib.hid ht
  have hdl0' : ((dl : Int) == 0) = false := beq_eq_false_iff_ne.2 (by omega)
  have H156 := Lib.hid (nat_set (.slice none 0 0) _ (upTo X m) w (.inl rfl) hx.nt.nt hsmU h17)
  clear hx hd hg ho hdl' hX0 hupb hMlt hM4 hM hX2 hXne hbX ht hsmU hG
  go_enter Tryz.func195, Tryz.ntmps195
  go_wp2_with fail
  refine H156.out.mono ?_
  rintro e1 w1 ⟨r1, rfl, hr1⟩
  have K1 := Lib.hid (hr1.chg.mono (T := No) (fun _ _ _ f => f))
  obtain ⟨mb, mo, mn, mc, rfl, hN1, hmn0, hmn1⟩ := hr1.nt.pos HMM.out.2.2.2.2.2.2.2 (by
    have := upTo_ge (X := X) (m := m) (by have := HMM.out.2.2.2.1; omega) (by have := HMM.out.2.2.2.2.2.1; omega)
    have := Nat.two_pow_pos (64 * m - 1)
    omega)
  have HN1 := Lib.hid hN1
  have HNew1 : Hid (w.heap.size ≤ mb) := Lib.hid (by
    rcases hr1.fp mb mo ⟨rfl, Nat.le_refl _, by have := hN1.1.le; simp; omega⟩ with f | f
    · exact f.elim
    · exact f)
  have e0 := (K1.out.cell fb 0 hne (fun f => f)).trans f0
  have e6 := (K1.out.cell fb 6 hne (fun f => f)).trans f6
  clear hr1 hN1 f0 f1 f2 f3 f4 f5 f6
  go_wp2_with fail
  obtain ⟨bM, hbM⟩ : ∃ bM, bM = 64 * m := ⟨_, rfl⟩
  have H194 : Hid (∀ W, Chg No w1 W → Calls Tryz.prog 194 #[.slice (some ⟨mb, mo, none⟩) mn mc] W fun e w' => e = .returned (.int .i64 bM) ∧ ∃ j, w' = W.drewN j) := Lib.hid fun W hW => by
    have := nat_bitLen _ (upTo X m) W (HN1.out.nt.chg hW (fun _ _ _ f => f)) HMM.out.2.2.2.2.2.2.2
    rw [HMM.out.2.2.2.2.2.2.1, ← hbM] at this
    exact this
  have HC1 : Hid (∀ W, Chg No w1 W → W.cell? ⟨fb, 0, none⟩ = some (.int .u32 P) ∧ W.cell? ⟨fb, 6, none⟩ = some (.int .i32 (bX + E))) := Lib.hid fun W hW => ⟨(hW.cell fb 0 (Nat.lt_of_lt_of_le hne K1.out.size) (fun f => f)).trans e0, (hW.cell fb 6 (Nat.lt_of_lt_of_le hne K1.out.size) (fun f => f)).trans e6⟩
  have hbM2 : bM ≤ 128 := by omega
  obtain ⟨ev, hev⟩ : ∃ ev : Int, ev = (bX : Int) + E - bM := ⟨_, rfl⟩
  obtain ⟨sv, hsv⟩ : ∃ sv : Int, sv = (bM : Int) - ((P : Int) + 1) := ⟨_, rfl⟩
  have z1 : IntKind.i64.wrap ((bX : Int) + E) = (bX : Int) + E := IntWalk.i64_in _ (by omega)
  have z2 : IntKind.i64.wrap ((bX : Int) + E - bM) = ev := by rw [← hev]; exact IntWalk.i64_in _ (by omega)
  have z3 : IntKind.u32.wrap ((P : Int) + 1) = (P : Int) + 1 := IntWalk.u32_in _ (by omega)
  have z4 : IntKind.i64.wrap ((P : Int) + 1) = (P : Int) + 1 := IntWalk.i64_in _ (by omega)
  have z5 : IntKind.i64.wrap ((bM : Int) - ((P : Int) + 1)) = sv := by rw [← hsv]; exact IntWalk.i64_in _ (by omega)
  have HEV := Lib.hid (And.intro hev (And.intro hsv hbM))
  clear hev hsv hbM e0 e6
  go_region_held3 (fun W => W.cell? ⟨fb, 0, none⟩ = some (.int .u32 P) ∧ W.cell? ⟨fb, 6, none⟩ = some (.int .i32 (bX + E))) (first | assumption | exact HC1.out _ (Chg.refl No w1).drew) (first
    | (go_at_call 194; (with_reducible refine (H194.out _ (Chg.refl No w1).drew).mono ?_); rintro e2 w2 ⟨rfl, j2, rfl⟩; have hS2 := HC1.out _ ((Chg.refl No w1).drew.drewN j2)))
  all_goals
    clear hS2
    try simp only [z1, z2]
    go_wp2_with fail
    go_region_held3 (fun W => W.cell? ⟨fb, 0, none⟩ = some (.int .u32 P) ∧ W.cell? ⟨fb, 6, none⟩ = some (.int .i32 (bX + E))) (first | assumption | exact HC1.out _ ((Chg.refl No w1).drewN _)) (first
      | (go_at_call 194; (with_reducible refine (H194.out _ ((Chg.refl No w1).drewN _)).mono ?_); rintro e3 w3 ⟨rfl, j3, rfl⟩; have hS3 := HC1.out _ (((Chg.refl No w1).drewN (1 + j2 + 1)).drewN j3)))
    all_goals
      clear hS3
      try simp only [z3, z4, z5]
      go_upto_block 0 with fail
      have KW := Lib.hid (K1.out.drewN (1 + j2 + 1 + j3))
      have HNW := Lib.hid (HN1.out.drewN (1 + j2 + 1 + j3))
      generalize w1.drewN (1 + j2 + 1 + j3) = w4 at KW HNW ⊢
      clear H194 HC1
      go_cut [4] (fun mv wx => ∃ mb mo mn mc, mv = .slice (some ⟨mb, mo, none⟩) mn mc ∧ Hid (NtAt wx mb mo mn mc MM) ∧ 0 < mn ∧ mn ≤ 1000 ∧ Hid (w.heap.size ≤ mb) ∧ Hid (Chg No w wx))
      case first =>
        have hown : Ow w4 (.slice (some ⟨mb, mo, none⟩) mn mc) := HNW.out.nt.ow
        have hal : AlB (.slice (some ⟨mb, mo, none⟩) mn mc) (.slice (some ⟨mb, mo, none⟩) mn mc) := .inl ⟨mb, mo, mn, mn, mc, rfl, rfl⟩
        have hw17 : 17 ≤ w4.heap.size := Nat.le_trans h17 KW.out.size
        have fin : ∀ w5 r, Res w4 w5 (.slice (some ⟨mb, mo, none⟩) mn mc) r MM → ∃ mb mo mn mc, r = .slice (some ⟨mb, mo, none⟩) mn mc ∧ Hid (NtAt w5 mb mo mn mc MM) ∧ 0 < mn ∧ mn ≤ 1000 ∧ Hid (w.heap.size ≤ mb) ∧ Hid (Chg No w w5) := by
          intro w5 r hr
          have hsm : Small MM := by
            unfold Small
            exact Nat.lt_trans HMM.out.2.1 (Nat.lt_of_lt_of_le (show 2 ^ 101 < WB ^ 2 by decide) (by
              obtain ⟨T, hT⟩ : ∃ T : Nat, T = 1000 := ⟨_, rfl⟩
              rw [← hT]; exact Nat.pow_le_pow_right (by decide) (by omega)))
          obtain ⟨b', o', n', c', rfl, hn, h0, h1⟩ := hr.nt.pos hsm (by have := HMM.out.2.2.1; omega)
          refine ⟨b', o', n', c', rfl, Lib.hid hn, h0, h1, Lib.hid ?_, Lib.hid (KW.out.then hr.chg (fun y o hy f => by have h : y = mb := f.1; have := HNew1.out; omega))⟩
          rcases hr.fp b' o' ⟨rfl, Nat.le_refl _, by have := hn.1.le; simp; omega⟩ with f | f
          · have h : b' = mb := f.1; have := HNew1.out; omega
          · have := KW.out.size; omega
        have FIN := Lib.hid fin
        clear fin
        by_cases hlt : bM < P + 1
        · obtain ⟨S, hS⟩ : ∃ S : Nat, S = P + 1 - bM := ⟨_, rfl⟩
          have y1 : sv < 0 := by have := HEV.out.2.1; omega
          have y2 : -sv = (S : Int) := by have := HEV.out.2.1; omega
          have HL := nat_lsh _ _ (upTo X m) S w4 hown HNW.out.nt HMM.out.2.2.2.2.2.2.2 (by omega) (fun h => by omega) hal hw17
          rw [show upTo X m * 2 ^ S = MM by
            rw [hS, HEV.out.2.2, HMM.out.1]
            exact upTo_shift_l (by rw [← HMM.out.2.2.2.2.2.1]; exact HMM.out.2.2.2.2.1) (by rw [← HMM.out.2.2.2.2.2.1]; exact hbhi) (by rw [← HMM.out.2.2.2.2.2.1]; exact hbl) (by have := HEV.out.2.2; omega)] at HL
          have HL := Lib.hid HL
          have y3 : IntKind.u64.wrap (S : Int) = (S : Int) := IntWalk.u64_in _ (by omega)
          have hS2 : S ≤ 200 := by omega
          clear hS hown hal
          go_wp2_with fail
          refine HL.out.mono ?_
          rintro e5 w5 ⟨r, rfl, hr⟩
          have HR := Lib.hid (FIN.out w5 r hr)
          clear hr
          go_wp2_with fail
          go_meet
          exact HR.out
        · by_cases heq : bM = P + 1
          · have y1 : sv = 0 := by have := HEV.out.2.1; omega
            have hMe : upTo X m = MM := by
              have h := upTo_shift_l (X := X) (m := m) (P := P) (G := G) (by rw [← HMM.out.2.2.2.2.2.1]; exact HMM.out.2.2.2.2.1) (by rw [← HMM.out.2.2.2.2.2.1]; exact hbhi) (by rw [← HMM.out.2.2.2.2.2.1]; exact hbl) (by have := HEV.out.2.2; omega)
              rw [show P + 1 - 64 * m = 0 by have := HEV.out.2.2; omega, Nat.pow_zero, Nat.mul_one] at h
              rw [h, HMM.out.1]
            subst y1
            have HF : Hid (NtAt w4 mb mo mn mc MM) := Lib.hid (by rw [← hMe]; exact HNW.out)
            clear hown hal hMe heq hlt
            go_wp2_with fail
            go_meet
            exact ⟨mb, mo, mn, mc, rfl, HF, hmn0, hmn1, HNew1, KW⟩
          · obtain ⟨S, hS⟩ : ∃ S : Nat, S = bM - (P + 1) := ⟨_, rfl⟩
            have y1 : sv = (S : Int) := by have := HEV.out.2.1; omega
            have HL := nat_rsh _ _ (upTo X m) S w4 hown HNW.out.nt HMM.out.2.2.2.2.2.2.2 (by omega) (fun h => by omega) hal hw17
            rw [show upTo X m / 2 ^ S = MM by
              rw [hS, HEV.out.2.2, HMM.out.1]
              exact upTo_shift_r (by rw [← HMM.out.2.2.2.2.2.1]; exact HMM.out.2.2.2.2.1) (by rw [← HMM.out.2.2.2.2.2.1]; exact hbhi) (by rw [← HMM.out.2.2.2.2.2.1]; exact hbl) (by have := HEV.out.2.2; omega)] at HL
            have HL := Lib.hid HL
            have y3 : IntKind.u64.wrap (S : Int) = (S : Int) := IntWalk.u64_in _ (by omega)
            have hS2 : S ≤ 200 := by omega
            have hS3 : (0 : Int) < S := by omega
            subst y1
            clear hS hown hal
            go_wp2_with fail
            refine HL.out.mono ?_
            rintro e5 w5 ⟨r, rfl, hr⟩
            have HR := Lib.hid (FIN.out w5 r hr)
            clear hr
            go_wp2_with fail
            go_meet
            exact HR.out
      case rest =>
        obtain ⟨nb, no, nn, nc, rfl, HN, hnn0, hnn1, HNn, HK⟩ := hcut
        clear HNW HNew1 HN1 K1 KW hmn0 hmn1
        generalize wc = wa at *
        have ht1 : t = ev + sv := by
          have h1 := HT.out; have h2 := HEV.out; have h3 := HMM.out.2.2.2.2.1
          omega
        have htb : -1000 ≤ t ∧ t ≤ 200 := by
          have h1 := HT.out; have h3 := HMM.out.2.2.2.2.1
          omega
        have et : ev + sv = t := ht1.symm
        have etw : IntKind.i64.wrap t = t := IntWalk.i64_in _ (by omega)
        have hsmM : Small MM := by
          unfold Small
          exact Nat.lt_trans HMM.out.2.1 (Nat.lt_of_lt_of_le (show 2 ^ 101 < WB ^ 2 by decide) (by
            obtain ⟨T, hT⟩ : ∃ T : Nat, T = 1000 := ⟨_, rfl⟩
            rw [← hT]; exact Nat.pow_le_pow_right (by decide) (by omega)))
        have HSM := Lib.hid hsmM
        have BL := Lib.hid (Bk.new wa #[.slice none 0 0, .int .i64 0] 235)
        have KA := Lib.hid ((Chg.refl No wa).alloc (.cells #[.slice none 0 0, .int .i64 0] 235))
        have h17a : 17 ≤ wa.heap.size := Nat.le_trans h17 HK.out.size
        have H1 := Lib.hid (natOne_ok (wa.alloc (.cells #[.slice none 0 0, .int .i64 0] 235)) (Nat.le_trans h17a KA.out.size))
        clear ht1 hsmM
        go_wp2_with fail
        generalize wa.alloc (.cells #[.slice none 0 0, .int .i64 0] 235) = w5 at BL KA H1 ⊢
        refine H1.out.mono ?_
        rintro e6 w6 ⟨ob, oc, rfl, hone, hob, hk6⟩
        have KA6 := Lib.hid (KA.out.then hk6 (fun _ _ _ f => f))
        have HNT6 := Lib.hid (HN.out.nt.chg KA6.out (fun _ _ _ f => f))
        have H2 := Lib.hid (nat_sub (.slice none 0 0) _ _ MM 1 w6 (.inl rfl) HNT6.out hone HSM.out (by have := HMM.out.2.2.1; omega) (.inr (ab_nil _)) (.inr (ab_nil _)) (Nat.le_trans h17a KA6.out.size))
        have BL6 := Lib.hid (BL.out.chg hk6 (fun _ f => f))
        clear hone hob hk6 H1
        go_wp2_with fail
        refine H2.out.mono ?_
        rintro e7 w7 ⟨r7, rfl, hr7⟩
        have hk7 : Chg No w6 w7 := hr7.chg.mono (T := No) (fun _ _ _ f => f)
        have KA7 := Lib.hid (KA6.out.then hk7 (fun _ _ _ f => f))
        obtain ⟨rb, ro, rn, rc, rfl, hrn, hrn0, hrn1⟩ := hr7.nt.pos (small_le HSM.out (Nat.sub_le _ _)) (by have := HMM.out.2.2.1; omega)
        have H3 := Lib.hid (dec_init_new wa.heap.size rb ro rn rc (MM - 1) t w7 hrn hrn0 hrn1 (by have := HMM.out.2.2.1; omega) (by have := HMM.out.2.1; omega) (BL6.out.chg hk7 (fun _ f => f)) h17a (HG.out.no (HK.out.then KA7.out (fun _ _ _ f => f))) htb.1 htb.2)
        clear hr7 hk7 hrn H2
        go_wp2_with fail
        refine H3.out.mono ?_
        rintro e8 w8 ⟨rfl, lxb, lxo, lxc, ls, xl, hls, hlx, hk8⟩
        have KA8 := Lib.hid (KA7.out.then hk8 (fun y o hy f => absurd f (Nat.ne_of_lt hy)))
        have HLS := Lib.hid hls
        have HLT := Lib.hid (And.intro hls.1.plain.lt hls.1.nb.lt)
        have BU := Lib.hid (Bk.new w8 #[.slice none 0 0, .int .i64 0] 235)
        have KU := Lib.hid ((Chg.refl No w8).alloc (.cells #[.slice none 0 0, .int .i64 0] 235))
        have h17b : 17 ≤ w8.heap.size := Nat.le_trans h17a KA8.out.size
        have H4 := Lib.hid (natOne_ok (w8.alloc (.cells #[.slice none 0 0, .int .i64 0] 235)) (Nat.le_trans h17b KU.out.size))
        clear hls hlx hk8 H3
        go_wp2_with fail
        generalize w8.alloc (.cells #[.slice none 0 0, .int .i64 0] 235) = w9 at BU KU H4 ⊢
        refine H4.out.mono ?_
        rintro e10 w10 ⟨ob2, oc2, rfl, hone, hob, hk10⟩
        have KU10 := Lib.hid (KU.out.then hk10 (fun _ _ _ f => f))
        have HNT10 := Lib.hid (HN.out.nt.chg (KA8.out.then KU10.out (fun _ _ _ f => f)) (fun _ _ _ f => f))
        have H5 := Lib.hid (nat_add (.slice none 0 0) _ _ MM 1 w10 (.inl rfl) HNT10.out hone HSM.out (by unfold Small; obtain ⟨T, hT⟩ : ∃ T : Nat, T = 1000 := ⟨_, rfl⟩; rw [← hT]; exact Nat.one_lt_pow (by omega) (by decide)) (.inr (ab_nil _)) (.inr (ab_nil _)) (Nat.le_trans h17b KU10.out.size))
        have BU10 := Lib.hid (BU.out.chg hk10 (fun _ f => f))
        clear hone hob hk10 H4
        go_wp2_with fail
        refine H5.out.mono ?_
        rintro e11 w11 ⟨r11, rfl, hr11⟩
        have hk11 : Chg No w10 w11 := hr11.chg.mono (T := No) (fun _ _ _ f => f)
        have KU11 := Lib.hid (KU10.out.then hk11 (fun _ _ _ f => f))
        have hsm1 : Small (MM + 1) := by
          unfold Small
          have := HMM.out.2.1
          exact Nat.lt_of_le_of_lt (show MM + 1 ≤ 2 ^ 101 by omega) (Nat.lt_of_lt_of_le (show 2 ^ 101 < WB ^ 2 by decide) (by
            obtain ⟨T, hT⟩ : ∃ T : Nat, T = 1000 := ⟨_, rfl⟩
            rw [← hT]; exact Nat.pow_le_pow_right (by decide) (by omega)))
        obtain ⟨qb, qo, qn, qc, rfl, hqn, hqn0, hqn1⟩ := hr11.nt.pos hsm1 (by omega)
        have H6 := Lib.hid (dec_init_new w8.heap.size qb qo qn qc (MM + 1) t w11 hqn hqn0 hqn1 (by omega) (by have := HMM.out.2.1; omega) (BU10.out.chg hk11 (fun _ f => f)) h17b (HG.out.no (HK.out.then (KA8.out.then KU11.out (fun _ _ _ f => f)) (fun _ _ _ f => f))) htb.1 htb.2)
        clear hr11 hk11 hqn H5 hsm1
        go_wp2_with fail
        refine H6.out.mono ?_
        rintro e12 w12 ⟨rfl, uxb, uxo, uxc, us, xu, hus, hux, hk12⟩
        have KU12 := KU11.out.then hk12 (fun y o hy f => absurd f (Nat.ne_of_lt hy))
        have KA12 := Lib.hid (KA8.out.then KU12 (fun _ _ _ f => f))
        have HUS := Lib.hid hus
        have HLS12 := Lib.hid (HLS.out.1.chg KU12 (fun _ f => f) (fun _ f => f))
        have HD12 := Lib.hid (HD.out.chg (HK.out.then KA12.out (fun _ _ _ f => f)) (fun _ f => f) (fun _ f => f))
        have cm := (KA12.out.cell nb no HN.out.1.lt (fun f => f)).trans (HN.out.word0 hnn0)
        clear hus hux hk12 KU12 H6
        generalize wa.heap.size = lb at HLS12 HLS ⊢
        generalize w8.heap.size = ub at HUS ⊢
        have ci := HLS12.out.c0
        have cu := HUS.out.1.c0
        have cd := HD12.out.c0
        obtain ⟨ll, hll⟩ : ∃ ll, ll = ls.length := ⟨_, rfl⟩
        obtain ⟨ul, hul⟩ : ∃ ul, ul = us.length := ⟨_, rfl⟩
        rw [← HO.out.2] at cd
        rw [← hll] at ci
        rw [← hul] at cu
        obtain ⟨cw, hcw⟩ : ∃ cw, cw = MM % WB := ⟨_, rfl⟩
        rw [← hcw] at cm
        obtain ⟨q, hq⟩ : ∃ q, q = 2 * (cw / 2 % 2) := ⟨_, rfl⟩
        have z14 : bits BinOp.and .u64 (cw : Int) 2 = (q : Int) := by rw [hq]; exact and2 (by rw [hcw]; exact Nat.mod_lt _ (by decide))
        obtain ⟨inb, hinb⟩ : ∃ inb : Bool, ((q : Int) == 0) = inb := ⟨_, rfl⟩
        have hinc : inb = true ↔ MM / 2 % 2 = 0 := by
          rw [← hinb, beq_iff_eq, hq, hcw]
          have hW : MM % WB / 2 % 2 = MM / 2 % 2 := by
            have hW2 : WB = 2 * (2 * 2 ^ 62) := by decide
            rw [hW2, Nat.mod_mul_right_div_self, Nat.mod_mul_right_mod]
          rw [hW]; omega
        have HL := Lib.hid (And.intro hinc (And.intro hll hul))
        have hll2 : ll ≤ 100000 := by rw [hll]; exact HLS.out.2.2.2.2.2.1
        have hul2 : ul ≤ 100000 := by rw [hul]; exact HUS.out.2.2.2.2.2.1
        have hn0 : (0 : Int) < nn := by omega
        have FIN : Hid (∀ i ds' x' w', (∀ j, j < i → ¬ dnP ls ds (MM / 2 % 2 = 0) j) → (∀ j, j < i → ¬ upP us ds (MM / 2 % 2 = 0) j) → ShStep ds ls us x (MM / 2 % 2 = 0) i ds' x' → DeX w' b yb yo yc ds' x' → Chg (DS b yb) w12 w' →
            ∃ ds' x' ls us xl xu, DecPure (MM - 1) t ls xl ∧ DecPure (MM + 1) t us xu ∧ ShAll ds ls us x (MM / 2 % 2 = 0) ds' x' ∧ DeX w' b yb yo yc ds' x' ∧ Chg (DS b yb) w w') :=
          Lib.hid fun i ds' x' w' h1 h2 h3 h4 h5 => ⟨ds', x', ls, us, xl, xu, HLS.out.pure, HUS.out.pure, ⟨i, h1, h2, h3⟩, h4, ((HK.out.then KA12.out (fun _ _ _ f => f)).mono (fun _ _ _ f => f.elim)).then h5 (fun _ _ _ f => f)⟩
        clear hq hcw hinc hll hul
        go_upto_region 16 with fail
        go_loop [87] (fun v => ∃ i : Nat, v = .int .i64 i ∧ i ≤ dl ∧ Hid ((∀ j, j < i → ¬ dnP ls ds (MM / 2 % 2 = 0) j) ∧ (∀ j, j < i → ¬ upP us ds (MM / 2 % 2 = 0) j))) (fun v => dl - (intOf v).toNat)
        case atStart => exact ⟨0, rfl, by omega, Lib.hid ⟨fun j h => by omega, fun j h => by omega⟩⟩
        case round =>
          obtain ⟨i, rfl, hi, hZ⟩ := hrel
          by_cases hlt : i < dl
          · have j1 : (i : Int) < dl := by omega
            have hc := HD12.out.cell (j := i) (by rw [← HO.out.2]; exact hlt)
            obtain ⟨ym, hym⟩ : ∃ ym, ym = 48 + ds.getD i 0 := ⟨_, rfl⟩
            rw [← hym] at hc
            have hym2 : ym < 58 := by have := getD_lt (j := i) HD12.out.d10; omega
            have HA1 := dec_at lb lxb lxo lxc ls xl i w12 HLS12.out (by have := HL.out.2.1; omega) (by omega) (by omega)
            have HA2 := dec_at ub uxb uxo uxc us xu i w12 HUS.out.1 (by have := HL.out.2.2; omega) (by omega) (by omega)
            obtain ⟨yl, hyl⟩ : ∃ yl, yl = atD ls (i : Int) := ⟨_, rfl⟩
            obtain ⟨yu, hyu⟩ : ∃ yu, yu = atD us (i : Int) := ⟨_, rfl⟩
            have hyl2 : yl < 58 := by rw [hyl]; exact atD_lt HLS12.out.d10 _
            have hyu2 : yu < 58 := by rw [hyu]; exact atD_lt HUS.out.1.d10 _
            rw [← hyl] at HA1
            rw [← hyu] at HA2
            have HA1 := Lib.hid HA1
            have HA2 := Lib.hid HA2
            have HY := Lib.hid (show ym = 48 + ds.getD i 0 ∧ yl = 48 + ls.getD i 0 ∧ yu = 48 + us.getD i 0 from ⟨hym, by rw [hyl, atD_nat], by rw [hyu, atD_nat]⟩)
            clear hym hyl hyu
            go_upto_region 20 with (go_at_call 250; first | ((with_reducible refine HA1.out.mono ?_); rintro eq wq ⟨rfl, rfl⟩) | ((with_reducible refine HA2.out.mono ?_); rintro eq wq ⟨rfl, rfl⟩))
            go_cut [15] (fun v wx => ∃ dn : Bool, v = .bool dn ∧ wx = w12 ∧ Hid (dn = true ↔ dnP ls ds (MM / 2 % 2 = 0) i))
            case first =>
              clear HA1 HA2
              have hD := dn_iff (inc := MM / 2 % 2 = 0) HY.out.1 HY.out.2.1 HL.out.1 HL.out.2.1
              have HD := Lib.hid hD
              clear hD
              by_cases e1 : yl = ym
              · have t1 : ((yl : Int) != (ym : Int)) = false := by simp [e1]
                have E1 := Lib.hid e1
                clear e1
                cases inb with
                | false =>
                  go_wp2_with fail
                  go_meet
                  exact ⟨false, rfl, rfl, Lib.hid ⟨fun h => absurd h (by decide), fun h => absurd (HD.out.1 h) (by simp [E1.out])⟩⟩
                | true =>
                  by_cases e2 : i + 1 = ll
                  · have t2 : ((i : Int) + 1 == (ll : Int)) = true := by rw [beq_iff_eq]; omega
                    go_wp2_with fail
                    go_meet
                    exact ⟨true, rfl, rfl, Lib.hid ⟨fun _ => HD.out.2 (.inr ⟨by simp, e2⟩), fun _ => rfl⟩⟩
                  · have t2 : ((i : Int) + 1 == (ll : Int)) = false := beq_eq_false_iff_ne.2 (by omega)
                    go_wp2_with fail
                    go_meet
                    exact ⟨false, rfl, rfl, Lib.hid ⟨fun h => absurd h (by decide), fun h => absurd (HD.out.1 h) (by simp [E1.out, e2])⟩⟩
              · have t1 : ((yl : Int) != (ym : Int)) = true := by simp; omega
                go_wp2_with fail
                go_meet
                exact ⟨true, rfl, rfl, Lib.hid ⟨fun _ => HD.out.2 (.inl e1), fun _ => rfl⟩⟩
            case rest =>
              obtain ⟨dn, rfl, hw, HDN⟩ := hcut
              have hw := hw.symm
              subst hw
              clear HA1 HA2
              go_upto_region 21 with fail
              go_cut [16] (fun v wx => ∃ up : Bool, v = .bool up ∧ wx = w12 ∧ Hid (up = true ↔ upP us ds (MM / 2 % 2 = 0) i))
              case first =>
                have HU := Lib.hid (up_iff (inc := MM / 2 % 2 = 0) HY.out.1 HY.out.2.2 HL.out.1 HL.out.2.2)
                by_cases e1 : ym = yu
                · have t1 : ((ym : Int) != (yu : Int)) = false := by simp [e1]
                  have E1 := Lib.hid e1
                  clear e1
                  go_wp2_with fail
                  go_meet
                  exact ⟨false, rfl, rfl, Lib.hid ⟨fun h => absurd h (by decide), fun h => absurd (HU.out.1 h).1 (by simp [E1.out])⟩⟩
                · have t1 : ((ym : Int) != (yu : Int)) = true := by simp; omega
                  cases inb with
                  | true =>
                    go_wp2_with fail
                    go_meet
                    exact ⟨true, rfl, rfl, Lib.hid ⟨fun _ => HU.out.2 ⟨e1, .inl (by simp)⟩, fun _ => rfl⟩⟩
                  | false =>
                    have tw : IntKind.u8.wrap ((ym : Int) + 1) = (ym : Int) + 1 := IntWalk.u8_in _ (by omega)
                    by_cases e2 : ym + 1 < yu
                    · have t2 : decide ((ym : Int) + 1 < (yu : Int)) = true := decide_eq_true (by omega)
                      have t2' : decide (ym + 1 < yu) = true := decide_eq_true (by omega)
                      have t2'' : (ym : Int) + 1 < (yu : Int) := by omega
                      go_wp2_with fail
                      go_meet
                      exact ⟨true, rfl, rfl, Lib.hid ⟨fun _ => HU.out.2 ⟨e1, .inr (.inl e2)⟩, fun _ => rfl⟩⟩
                    · have t2 : decide ((ym : Int) + 1 < (yu : Int)) = false := decide_eq_false (by omega)
                      have t2' : decide (ym + 1 < yu) = false := decide_eq_false (by omega)
                      have t2'' : ¬ (ym : Int) + 1 < (yu : Int) := by omega
                      by_cases e3 : i + 1 < ul
                      · have t3 : decide ((i : Int) + 1 < (ul : Int)) = true := decide_eq_true (by omega)
                        have t3' : decide (i + 1 < ul) = true := decide_eq_true (by omega)
                        have t3'' : (i : Int) + 1 < (ul : Int) := by omega
                        go_wp2_with fail
                        go_meet
                        exact ⟨true, rfl, rfl, Lib.hid ⟨fun _ => HU.out.2 ⟨e1, .inr (.inr (.inl e3))⟩, fun _ => rfl⟩⟩
                      · have t3 : decide ((i : Int) + 1 < (ul : Int)) = false := decide_eq_false (by omega)
                        have t3' : decide (i + 1 < ul) = false := decide_eq_false (by omega)
                        have t3'' : ¬ (i : Int) + 1 < (ul : Int) := by omega
                        by_cases e4 : ul ≤ i
                        · have t4 : decide ((ul : Int) ≤ (i : Int)) = true := decide_eq_true (by omega)
                          have t4' : decide (ul ≤ i) = true := decide_eq_true (by omega)
                          have t4'' : (ul : Int) ≤ (i : Int) := by omega
                          by_cases e5 : ym < 57
                          · have t5 : decide ((ym : Int) < 57) = true := decide_eq_true (by omega)
                            have t5' : decide (ym < 57) = true := decide_eq_true (by omega)
                            have t5'' : (ym : Int) < 57 := by omega
                            go_wp2_with fail
                            go_meet
                            exact ⟨true, rfl, rfl, Lib.hid ⟨fun _ => HU.out.2 ⟨e1, .inr (.inr (.inr ⟨e4, e5⟩))⟩, fun _ => rfl⟩⟩
                          · have t5 : decide ((ym : Int) < 57) = false := decide_eq_false (by omega)
                            have t5' : decide (ym < 57) = false := decide_eq_false (by omega)
                            have t5'' : ¬ (ym : Int) < 57 := by omega
                            go_wp2_with fail
                            go_meet
                            exact ⟨false, rfl, rfl, Lib.hid ⟨fun h => absurd h (by decide), fun h => absurd (HU.out.1 h).2 (by simp [e2, e3, e5])⟩⟩
                        · have t4 : decide ((ul : Int) ≤ (i : Int)) = false := decide_eq_false (by omega)
                          have t4' : decide (ul ≤ i) = false := decide_eq_false (by omega)
                          have t4'' : ¬ (ul : Int) ≤ (i : Int) := by omega
                          go_wp2_with fail
                          go_meet
                          exact ⟨false, rfl, rfl, Lib.hid ⟨fun h => absurd h (by decide), fun h => absurd (HU.out.1 h).2 (by simp [e2, e3, e4])⟩⟩
              case rest =>
                obtain ⟨up, rfl, hw, HUP⟩ := hcut
                have hw := hw.symm
                subst hw
                have hcast : ((i + 1 : Nat) : Int) = (i : Int) + 1 := by omega
                cases dn with
                | false =>
                  cases up with
                  | false =>
                    go_wp2_with fail
                    go_round
                    case rel =>
                      refine ⟨i + 1, by go_num, by omega, Lib.hid ⟨fun j hj => ?_, fun j hj => ?_⟩⟩
                      · rcases (show j < i ∨ j = i by omega) with h | rfl
                        · exact hZ.out.1 j h
                        · exact fun h => absurd (HDN.out.2 h) (by decide)
                      · rcases (show j < i ∨ j = i by omega) with h | rfl
                        · exact hZ.out.2 j h
                        · exact fun h => absurd (HUP.out.2 h) (by decide)
                    case measure => simp [intOf]; omega
                  | true =>
                    by_cases hii : i + 1 < dl
                    · have HR := dec_roundUp b yb yo yc ds x (i + 1) w12 HD12.out (by rw [← HO.out.2]; omega) (by rw [← HO.out.2]; omega) HO.out.1.2.1 (by omega) (by omega)
                      rw [hcast] at HR
                      have HR := Lib.hid HR
                      go_wp2_with fail
                      refine HR.out.mono ?_
                      rintro e13 w13 ⟨rfl, ds', x', g1, g2, g3⟩
                      have R := Lib.hid (FIN.out i ds' x' w13 hZ.out.1 hZ.out.2 (sh_up (by rw [← HO.out.2]; omega) (HUP.out.1 (by simp)) g1 g2.d10) g2 g3)
                      clear g1 g2 g3
                      go_wp2_with fail
                      refine bodyPost_ret (results_none rfl _ _ _) rfl ?_
                      exact ⟨rfl, R.out⟩
                    · have HR := dec_roundUp_no b yb yo yc ds x (i + 1) w12 HD12.out (by rw [← HO.out.2]; omega)
                      rw [hcast] at HR
                      have HR := Lib.hid HR
                      go_wp2_with fail
                      refine HR.out.mono ?_
                      rintro e13 w13 ⟨rfl, rfl⟩
                      go_wp2_with fail
                      refine bodyPost_ret (results_none rfl _ _ _) rfl ?_
                      exact ⟨rfl, FIN.out i ds x w12 hZ.out.1 hZ.out.2 (sh_whole (by rw [← HO.out.2]; omega)) HD12.out (Chg.refl _ _)⟩
                | true =>
                  cases up with
                  | false =>
                    by_cases hii : i + 1 < dl
                    · have HR := dec_roundDown b yb yo yc ds x (i + 1) w12 HD12.out (by rw [← HO.out.2]; omega) (by rw [← HO.out.2]; omega)
                      rw [hcast] at HR
                      have HR := Lib.hid HR
                      go_wp2_with fail
                      refine HR.out.mono ?_
                      rintro e13 w13 ⟨rfl, k, g1, g2, g3⟩
                      have R := Lib.hid (FIN.out i _ _ w13 hZ.out.1 hZ.out.2 (sh_down HO.out.1 (by rw [← HO.out.2]; omega) (HDN.out.1 (by simp)) g1) g2 (g3.mono (fun _ _ _ f => .inl f)))
                      clear g1 g2 g3
                      go_wp2_with fail
                      refine bodyPost_ret (results_none rfl _ _ _) rfl ?_
                      exact ⟨rfl, R.out⟩
                    · have HR := dec_roundDown_no b yb yo yc ds x (i + 1) w12 HD12.out (by rw [← HO.out.2]; omega)
                      rw [hcast] at HR
                      have HR := Lib.hid HR
                      go_wp2_with fail
                      refine HR.out.mono ?_
                      rintro e13 w13 ⟨rfl, rfl⟩
                      go_wp2_with fail
                      refine bodyPost_ret (results_none rfl _ _ _) rfl ?_
                      exact ⟨rfl, FIN.out i ds x w12 hZ.out.1 hZ.out.2 (sh_whole (by rw [← HO.out.2]; omega)) HD12.out (Chg.refl _ _)⟩
                  | true =>
                    by_cases hii : i + 1 < dl
                    · have HR := dec_round b yb yo yc ds x (i + 1) w12 HD12.out (by rw [← HO.out.2]; omega) (by rw [← HO.out.2]; omega) HO.out.1.2.1 (by omega) (by omega)
                      rw [hcast] at HR
                      have HR := Lib.hid HR
                      go_wp2_with fail
                      refine HR.out.mono ?_
                      rintro e13 w13 ⟨rfl, ds', x', g1, g2, g3⟩
                      have R := Lib.hid (FIN.out i ds' x' w13 hZ.out.1 hZ.out.2 (sh_round HO.out.1 (by rw [← HO.out.2]; omega) (HDN.out.1 (by simp)) (HUP.out.1 (by simp)) g1 g2.d10) g2 g3)
                      clear g1 g2 g3
                      go_wp2_with fail
                      refine bodyPost_ret (results_none rfl _ _ _) rfl ?_
                      exact ⟨rfl, R.out⟩
                    · have HR := dec_round_no b yb yo yc ds x ((i + 1 : Nat) : Int) w12 HD12.out (.inr (by rw [← HO.out.2]; omega))
                      rw [hcast] at HR
                      have HR := Lib.hid HR
                      go_wp2_with fail
                      refine HR.out.mono ?_
                      rintro e13 w13 ⟨rfl, rfl⟩
                      go_wp2_with fail
                      refine bodyPost_ret (results_none rfl _ _ _) rfl ?_
                      exact ⟨rfl, FIN.out i ds x w12 hZ.out.1 hZ.out.2 (sh_whole (by rw [← HO.out.2]; omega)) HD12.out (Chg.refl _ _)⟩
          · obtain rfl : i = dl := by omega
            have j1 : ¬ (i : Int) < i := by omega
            go_wp2_with fail
            go_end0
            obtain ⟨p1, p2, p3, p4, p5, p6, p7, p8, p9, p10, p11⟩ := FIN.out i ds x w12 hZ.out.1 hZ.out.2 (sh_whole (by rw [← HO.out.2]; omega)) HD12.out (Chg.refl _ _)
            exact ⟨rfl, p1, p2, p3, ⟨p5, p7⟩, p4, ⟨p6, p8⟩, p9, p10, p11⟩
end Go.Proofs.YtacfhndledcmgaaGreatDoor
