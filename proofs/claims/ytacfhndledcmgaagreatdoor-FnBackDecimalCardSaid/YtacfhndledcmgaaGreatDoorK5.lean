/- Lemmas for the law FnBackDecimal: shifts of nat, trailing zeros. Conditions: those in each theorem; none besides. -/
import Derived.Test.YtacfhndledcmgaaGreatDoorK4
import Derived.Shelf.Spec.TrailingZeros
set_option linter.unusedVariables false
set_option linter.unusedSimpArgs false
namespace Go.Proofs.YtacfhndledcmgaaGreatDoor
open Go.RowKit
set_option maxHeartbeats 1000000 in
theorem alias_ab (z x : Value) (w : World) (hz : Ow w z) (hx : Ow w x) (hal : Ab z x) :
    Calls Tryz.prog 155 #[z, x] w fun e w' => ∃ (m : Nat), e = .returned (.bool false) ∧ w' = w.drewN m := by
  rcases hz with rfl | ⟨b, o, n, c, rfl, hn⟩
  · go_enter Tryz.func155, Tryz.ntmps155
    go_wp2_with fail
    go_quiet (fail)
    go_wp2_with fail
    go_ret
    exact ⟨_, rfl, rfl⟩
  · by_cases hc0 : c = 0
    · subst hc0
      go_enter Tryz.func155, Tryz.ntmps155
      go_wp2_with fail
      go_quiet (fail)
      go_wp2_with fail
      go_ret
      exact ⟨_, rfl, rfl⟩
    · have c1 : (0 : Int) < c := by omega
      have c1n : 0 < c := by omega
      have d1 : decide (0 < c) = true := decide_eq_true c1n
      rcases hx with rfl | ⟨xb, xo, xn, xc, rfl, hxn⟩
      · go_enter Tryz.func155, Tryz.ntmps155
        go_wp2_with fail
        go_quiet (fail)
        go_wp2_with fail
        go_ret
        exact ⟨_, rfl, rfl⟩
      · by_cases hxc0 : xc = 0
        · subst hxc0
          go_enter Tryz.func155, Tryz.ntmps155
          go_wp2_with fail
          go_quiet (fail)
          go_wp2_with fail
          go_ret
          exact ⟨_, rfl, rfl⟩
        · have x1 : (0 : Int) < xc := by omega
          have x1n : 0 < xc := by omega
          have d2 : decide (0 < xc) = true := decide_eq_true x1n
          have m1 := hn.max
          have m2 := hxn.max
          unfold maxLen at m1 m2
          have e1 : IntKind.i64.wrap ((c : Int) - 1) = (c : Int) - 1 := IntWalk.i64_in _ (by omega)
          have e2 : IntKind.i64.wrap ((xc : Int) - 1) = (xc : Int) - 1 := IntWalk.i64_in _ (by omega)
          have e3 : ((c : Int) - 1).toNat = c - 1 := by omega
          have e4 : ((xc : Int) - 1).toNat = xc - 1 := by omega
          have i1 : 0 ≤ (c : Int) - 1 := by omega
          have i2 : 0 ≤ (xc : Int) - 1 := by omega
          have i3 : (c : Int) - 1 < c := by omega
          have i4 : (xc : Int) - 1 < xc := by omega
          have hsame : b ≠ xb := hal b o xb xo ⟨rfl, Nat.le_refl _, by simp; omega⟩ ⟨rfl, Nat.le_refl _, by simp; omega⟩
          · have hp : ∀ m : Nat, (binOp .eql 261 (.pointer (some ⟨b, o + (c - 1), none⟩)) (.pointer (some ⟨xb, xo + (xc - 1), none⟩))).run Tryz.prog (w.drewN m) = .ok (.bool false) (w.drewN m) :=
              fun m => eql_other (fun e => hsame (congrArg Addr.block e)) hn.plain hxn.plain
            clear m1 m2 hsame
            go_enter Tryz.func155, Tryz.ntmps155
            go_wp2_with fail
            go_quiet (fail)
            go_wp2_with fail
            go_ret
            exact ⟨_, rfl, rfl⟩
theorem alias_d (z x : Value) (w : World) (hz : Ow w z) (hx : Ow w x) (hal : Al z x) (k : Nat) :
    Calls Tryz.prog 155 #[z, x] (w.drewN k) fun e w' => ∃ (t : Bool) (m : Nat), e = .returned (.bool t) ∧ w' = w.drewN m :=
  (alias z x (w.drewN k) (hz.drewN k) (hx.drewN k) hal).mono fun _ _ ⟨t, m, h1, _, h3⟩ => ⟨t, k + m, h1, by rw [h3]; simp⟩
theorem alias_abd (z x : Value) (w : World) (hz : Ow w z) (hx : Ow w x) (hal : Ab z x) (k : Nat) :
    Calls Tryz.prog 155 #[z, x] (w.drewN k) fun e w' => ∃ (m : Nat), e = .returned (.bool false) ∧ w' = w.drewN m :=
  (alias_ab z x (w.drewN k) (hz.drewN k) (hx.drewN k) hal).mono fun _ _ ⟨m, h1, h3⟩ => ⟨k + m, h1, by rw [h3]; simp⟩
theorem nat_set_d (z x : Value) (X : Nat) (w : World) (hz : Ow w z) (hx : Nt w x X) (hX : Small X) (hs : 17 ≤ w.heap.size) (k : Nat) :
    Calls Tryz.prog 156 #[z, x] (w.drewN k) fun e w' => ∃ r, e = .returned r ∧ Res w w' z r X :=
  (nat_set z x X (w.drewN k) (hz.drewN k) (hx.drewN k) hX hs).mono fun _ _ ⟨r, h1, h2⟩ => ⟨r, h1, h2.ofDrewN⟩
theorem Res.self {w : World} {z : Value} {X k : Nat} (h : Nt w z X) : Res w (w.drewN k) z z X := ⟨h.drewN k, fun _ _ f => .inl f, (Chg.refl _ w).drewN k⟩
theorem Res.to {w w' : World} {z r : Value} {X : Nat} (h : Res w w' z r X) (k : Nat) : Res w (w'.drewN k) z r X := ⟨h.nt.drewN k, h.fp, h.chg.drewN k⟩
set_option maxRecDepth 100000 in
set_option maxHeartbeats 1000000 in
theorem nat_lsh0 (z x : Value) (X : Nat) (w : World) (hz : Ow w z) (hx : Nt w x X) (hX : Small X) (h0 : x = z ∨ Ab z x) (ax : AlB z x) (hs : 17 ≤ w.heap.size) :
    Calls Tryz.prog 100 #[z, x, .int .u64 0] w fun e w' => ∃ r, e = .returned r ∧ Res w w' z r X := by
  have A1 := Lib.hid (nat_same z x w hz hx.ow ax)
  have A3 := Lib.hid (nat_set_d z x X w hz hx hX hs)
  rcases h0 with rfl | hab
  · obtain ⟨xa, m, xc, rfl, hm, hx0, -⟩ := hx.cases hX
    have A2 := Lib.hid (alias_d _ _ w hz hx.ow ax.al)
    by_cases hm0 : m = 0
    · subst hm0
      obtain rfl := hx0 rfl
      have HC := Lib.hid (res_cut0 hz)
      rcases hz with hz | ⟨b, o, n', c, hz, hN⟩
      all_goals cases hz
      all_goals clear hx hX ax hx0
      all_goals go_enter Tryz.func100, Tryz.ntmps100
      all_goals go_wp2_with fail
      all_goals refine A1.out.mono ?_
      all_goals rintro e w1 ⟨t, k, rfl, h1, -, rfl⟩
      all_goals cases t
      all_goals first
        | (exfalso; obtain ⟨b, o, n, c, hn, he, -⟩ := h1 rfl; cases he <;> omega)
        | skip
      all_goals clear h1
      all_goals go_wp2_with fail
      all_goals refine (A2.out _).mono ?_
      all_goals rintro e w2 ⟨t2, k2, rfl, rfl⟩
      all_goals cases t2
      all_goals go_wp2_with fail
      all_goals first
        | (refine (A3.out _).mono ?_
           rintro e w3 ⟨r, rfl, hr⟩
           go_wp2_with fail
           go_ret
           exact ⟨r, rfl, hr⟩)
        | (go_ret
           exact ⟨_, rfl, HC.out.to _⟩)
    · have HS := Lib.hid fun k => Res.self (k := k) hx
      have HM := Lib.hid fun (h2 : ∀ b o n c c', Value.slice xa m xc = .slice (some ⟨b, o, none⟩) n c → Value.slice xa m xc = .slice (some ⟨b, o, none⟩) n c' → n = 0) => (show m = 0 from by
        obtain ⟨b, o, rfl, -⟩ := hx.at (by omega)
        exact h2 b o m xc xc rfl rfl)
      clear hx hX ax hx0 hz
      go_enter Tryz.func100, Tryz.ntmps100
      go_wp2_with fail
      refine A1.out.mono ?_
      rintro e w1 ⟨t, k, rfl, h1, h2, rfl⟩
      cases t
      · exfalso
        exact hm0 (HM.out (h2 rfl))
      · clear h1 h2
        go_wp2_with fail
        go_ret
        exact ⟨_, rfl, HS.out k⟩
  · have A2 := Lib.hid (alias_abd _ _ w hz hx.ow hab)
    have HS := Lib.hid fun (e : x = z) k => Res.self (k := k) (e ▸ hx)
    clear hx hX ax hz hab
    go_enter Tryz.func100, Tryz.ntmps100
    go_wp2_with fail
    refine A1.out.mono ?_
    rintro e w1 ⟨t, k, rfl, h1, -, rfl⟩
    cases t
    · clear h1
      go_wp2_with fail
      refine (A2.out _).mono ?_
      rintro e w2 ⟨k2, rfl, rfl⟩
      go_wp2_with fail
      refine (A3.out _).mono ?_
      rintro e w3 ⟨r, rfl, hr⟩
      go_wp2_with fail
      go_ret
      exact ⟨r, rfl, hr⟩
    · have he : x = z := by
        obtain ⟨b, o, n, c, -, he, hx⟩ := h1 rfl
        exact hx
      have HS := Lib.hid (HS.out he)
      clear h1 he
      go_wp2_with fail
      go_ret
      exact ⟨_, rfl, HS.out k⟩
set_option maxRecDepth 100000 in
set_option maxHeartbeats 1000000 in
theorem nat_rsh0 (z x : Value) (X : Nat) (w : World) (hz : Ow w z) (hx : Nt w x X) (hX : Small X) (h0 : x = z ∨ Ab z x) (ax : AlB z x) (hs : 17 ≤ w.heap.size) :
    Calls Tryz.prog 148 #[z, x, .int .u64 0] w fun e w' => ∃ r, e = .returned r ∧ Res w w' z r X := by
  have A1 := Lib.hid (nat_same z x w hz hx.ow ax)
  have A3 := Lib.hid (nat_set_d z x X w hz hx hX hs)
  rcases h0 with rfl | hab
  · obtain ⟨xa, m, xc, rfl, hm, hx0, -⟩ := hx.cases hX
    have A2 := Lib.hid (alias_d _ _ w hz hx.ow ax.al)
    by_cases hm0 : m = 0
    · subst hm0
      obtain rfl := hx0 rfl
      have HC := Lib.hid (res_cut0 hz)
      rcases hz with hz | ⟨b, o, n', c, hz, hN⟩
      all_goals cases hz
      all_goals clear hx hX ax hx0
      all_goals go_enter Tryz.func148, Tryz.ntmps148
      all_goals go_wp2_with fail
      all_goals refine A1.out.mono ?_
      all_goals rintro e w1 ⟨t, k, rfl, h1, -, rfl⟩
      all_goals cases t
      all_goals first
        | (exfalso; obtain ⟨b, o, n, c, hn, he, -⟩ := h1 rfl; cases he <;> omega)
        | skip
      all_goals clear h1
      all_goals go_wp2_with fail
      all_goals refine (A2.out _).mono ?_
      all_goals rintro e w2 ⟨t2, k2, rfl, rfl⟩
      all_goals cases t2
      all_goals go_wp2_with fail
      all_goals first
        | (refine (A3.out _).mono ?_
           rintro e w3 ⟨r, rfl, hr⟩
           go_wp2_with fail
           go_ret
           exact ⟨r, rfl, hr⟩)
        | (go_ret
           exact ⟨_, rfl, HC.out.to _⟩)
    · have HS := Lib.hid fun k => Res.self (k := k) hx
      have HM := Lib.hid fun (h2 : ∀ b o n c c', Value.slice xa m xc = .slice (some ⟨b, o, none⟩) n c → Value.slice xa m xc = .slice (some ⟨b, o, none⟩) n c' → n = 0) => (show m = 0 from by
        obtain ⟨b, o, rfl, -⟩ := hx.at (by omega)
        exact h2 b o m xc xc rfl rfl)
      clear hx hX ax hx0 hz
      go_enter Tryz.func148, Tryz.ntmps148
      go_wp2_with fail
      refine A1.out.mono ?_
      rintro e w1 ⟨t, k, rfl, h1, h2, rfl⟩
      cases t
      · exfalso
        exact hm0 (HM.out (h2 rfl))
      · clear h1 h2
        go_wp2_with fail
        go_ret
        exact ⟨_, rfl, HS.out k⟩
  · have A2 := Lib.hid (alias_abd _ _ w hz hx.ow hab)
    have HS := Lib.hid fun (e : x = z) k => Res.self (k := k) (e ▸ hx)
    clear hx hX ax hz hab
    go_enter Tryz.func148, Tryz.ntmps148
    go_wp2_with fail
    refine A1.out.mono ?_
    rintro e w1 ⟨t, k, rfl, h1, -, rfl⟩
    cases t
    · clear h1
      go_wp2_with fail
      refine (A2.out _).mono ?_
      rintro e w2 ⟨k2, rfl, rfl⟩
      go_wp2_with fail
      refine (A3.out _).mono ?_
      rintro e w3 ⟨r, rfl, hr⟩
      go_wp2_with fail
      go_ret
      exact ⟨r, rfl, hr⟩
    · have he : x = z := by
        obtain ⟨b, o, n, c, -, he, hx⟩ := h1 rfl
        exact hx
      have HS := Lib.hid (HS.out he)
      clear h1 he
      go_wp2_with fail
      go_ret
      exact ⟨_, rfl, HS.out k⟩
set_option maxRecDepth 100000 in
set_option maxHeartbeats 1000000 in
theorem nat_lsh_nil (z : Value) (xa : Option Addr) (xc s : Nat) (w : World) (hz : Ow w z) (hs0 : 0 < s) (hs1 : s < 1000000) :
    Calls Tryz.prog 100 #[z, .slice xa 0 xc, .int .u64 s] w fun e w' => ∃ r, e = .returned r ∧ Res w w' z r 0 := by
  have c1 : ((s : Int) == 0) = false := by simp; omega
  have HC := Lib.hid (res_cut0 hz)
  rcases hz with rfl | ⟨b, o, n', c, rfl, hN⟩
  all_goals go_enter Tryz.func100, Tryz.ntmps100
  all_goals go_wp2_with fail
  all_goals go_ret
  all_goals exact ⟨_, rfl, HC.out⟩
theorem nat_lsh (z x : Value) (X s : Nat) (w : World) (hz : Ow w z) (hx : Nt w x X) (hX : Small X) (hs1 : s < 1000000) (h0 : s = 0 → x = z ∨ Ab z x) (ax : AlB z x) (hs : 17 ≤ w.heap.size) :
    Calls Tryz.prog 100 #[z, x, .int .u64 s] w fun e w' => ∃ r, e = .returned r ∧ Res w w' z r (X * 2 ^ s) := by
  by_cases hs0 : s = 0
  · subst hs0
    rw [Nat.pow_zero, Nat.mul_one]
    exact nat_lsh0 z x X w hz hx hX (h0 rfl) ax hs
  · obtain ⟨xa, m, xc, rfl, hm, hx0, -⟩ := hx.cases hX
    by_cases hm0 : m = 0
    · subst hm0
      obtain rfl := hx0 rfl
      rw [Nat.zero_mul]
      exact nat_lsh_nil z xa xc s w hz (by omega) hs1
    · obtain ⟨xb, xo, rfl, hxA⟩ := hx.at (by omega)
      exact nat_lsh_pos z xb xo m xc X s w hz hxA (by omega) hm (by omega) hs1 ax hs
set_option maxRecDepth 100000 in
set_option maxHeartbeats 1000000 in
theorem nat_rsh_nil (z : Value) (xa : Option Addr) (xc s : Nat) (w : World) (hz : Ow w z) (hs0 : 0 < s) (hs1 : s < 1000000) :
    Calls Tryz.prog 148 #[z, .slice xa 0 xc, .int .u64 s] w fun e w' => ∃ r, e = .returned r ∧ Res w w' z r 0 := by
  have c1 : ((s : Int) == 0) = false := by simp; omega
  have c2 : (0 : Int) - (s : Int) / 64 ≤ 0 := by omega
  have HC := Lib.hid (res_cut0 hz)
  rcases hz with rfl | ⟨b, o, n', c, rfl, hN⟩
  all_goals go_enter Tryz.func148, Tryz.ntmps148
  all_goals go_wp2_with fail
  all_goals go_ret
  all_goals exact ⟨_, rfl, HC.out⟩
theorem nat_rsh (z x : Value) (X s : Nat) (w : World) (hz : Ow w z) (hx : Nt w x X) (hX : Small X) (hs1 : s < 1000000) (h0 : s = 0 → x = z ∨ Ab z x) (ax : AlB z x) (hs : 17 ≤ w.heap.size) :
    Calls Tryz.prog 148 #[z, x, .int .u64 s] w fun e w' => ∃ r, e = .returned r ∧ Res w w' z r (X / 2 ^ s) := by
  by_cases hs0 : s = 0
  · subst hs0
    rw [Nat.pow_zero, Nat.div_one]
    exact nat_rsh0 z x X w hz hx hX (h0 rfl) ax hs
  · obtain ⟨xa, m, xc, rfl, hm, hx0, -⟩ := hx.cases hX
    by_cases hm0 : m = 0
    · subst hm0
      obtain rfl := hx0 rfl
      rw [Nat.zero_div]
      exact nat_rsh_nil z xa xc s w hz (by omega) hs1
    · obtain ⟨xb, xo, rfl, hxA⟩ := hx.at (by omega)
      exact nat_rsh_pos z xb xo m xc X s w hz hxA (by omega) hm (by omega) hs1 ax hs
theorem Glob.tab {w : World} (h : Glob w) : TabAt 13 Lib.deBruijn64tab w := by
  have he : Lib.deBruijn64tab = deB64 := by decide
  intro j hj
  rw [he] at hj ⊢
  refine h.cell 13 j _ ?_
  simp only [gcell]
  rw [List.getElem?_eq_getElem hj]
  simp [List.getD, hj]
set_option maxHeartbeats 1000000 in
theorem tz_core (x k idx : Nat) (w : World) (hx0 : ((x : Int) == 0) = false)
    (key : IntKind.u64.wrap (bits BinOp.and IntKind.u64 (x : Int) (IntKind.u64.wrap (-(x : Int))) * 285870213051353865) / 288230376151711744 = (idx : Int))
    (hi : idx < 64) (hk : k < 64) (hcell : w.cell? ⟨13, idx, none⟩ = some (.int .u8 k)) :
    Calls Tryz.prog 268 #[.int .u64 x] w fun e w' => e = .returned (.int .i64 k) ∧ w = w' := by
  go_enter Tryz.func268, Tryz.ntmps268
  go_wp2_with (simp only [key])
  go_ret
  exact ⟨rfl, rfl⟩
theorem tz64 (x : Nat) (hx : x < WB) (hx0 : x ≠ 0) (w : World) (hg : Glob w) :
    Calls Tryz.prog 268 #[.int .u64 x] w fun e w' => e = .returned (.int .i64 (Lib.ctz 64 x)) ∧ w = w' := by
  obtain ⟨hlow, hk⟩ := Lib.lowest_bit 64 x hx0 hx
  obtain ⟨hi, htab⟩ := Lib.deBruijn64_at _ hk
  have hcell := hg.tab _ hi
  rw [htab] at hcell
  exact tz_core x _ _ w (by simp; omega) (tz64_key x _ hx hx0 hlow) hi hk hcell
set_option maxHeartbeats 1000000 in
theorem bits_tz (x : Nat) (hx : x < WB) (hx0 : x ≠ 0) (w : World) (hg : Glob w) :
    Calls Tryz.prog 221 #[.int .u64 x] w fun e w' => e = .returned (.int .i64 (Lib.ctz 64 x)) ∧ w = w' := by
  have A := Lib.hid (tz64 x hx hx0 w hg)
  clear hx hx0 hg
  go_enter Tryz.func221, Tryz.ntmps221
  go_wp2_with fail
  refine A.out.mono ?_
  rintro e w' ⟨rfl, rfl⟩
  go_wp2_with fail
  go_ret
  exact ⟨rfl, rfl⟩
theorem ctz_spec {x : Nat} (hx : x < WB) (h0 : x ≠ 0) : (∃ m, x = 2 ^ Lib.ctz 64 x * (2 * m + 1)) ∧ Lib.ctz 64 x < 64 := by
  unfold Lib.ctz
  rw [if_neg h0]
  obtain ⟨m, h1, h2⟩ := Lib.ctzFrom_spec 64 x (by omega) hx
  exact ⟨⟨m, h1⟩, h2⟩
theorem tz_val {w : World} {b o m k t j : Nat} (hk : k < m) (hz : ∀ i, i < k → wd w b (o + i) = 0) (hj : wd w b (o + k) = 2 ^ t * (2 * j + 1)) (ht : t < 64) :
    Val w b o m = 2 ^ (64 * k + t) * (2 * (j + 2 ^ (64 - t - 1) * Val w b (o + (k + 1)) (m - (k + 1))) + 1) := by
  obtain ⟨n, rfl⟩ : ∃ n, m = k + (n + 1) := ⟨m - k - 1, by omega⟩
  have e : WB = 2 ^ t * (2 * 2 ^ (64 - t - 1)) := by
    rw [WB_eq, ← Nat.pow_succ', ← Nat.pow_add]
    congr 1
    omega
  rw [Val_split, Val_zero k hz, Val_low, hj, WB_pow, Nat.zero_add, Nat.pow_add, show k + (n + 1) - (k + 1) = n by omega, show o + k + 1 = o + (k + 1) by omega, Nat.mul_assoc]
  congr 1
  generalize hV : Val w b (o + (k + 1)) n = V
  generalize hP : 2 ^ (64 - t - 1) = P at e ⊢
  generalize hT : 2 ^ t = T at e ⊢
  rw [e]
  grind
set_option maxRecDepth 100000 in
set_option maxHeartbeats 1000000 in
theorem nat_tz_pos (xb xo m xc X : Nat) (w : World) (hx : NtAt w xb xo m xc X) (hm : 0 < m) (hm2 : m ≤ 1000) (hg : Glob w) :
    Calls Tryz.prog 204 #[.slice (some ⟨xb, xo, none⟩) m xc] w fun e w' => ∃ k j : Nat, e = .returned (.int .u64 k) ∧ X = 2 ^ k * (2 * j + 1) ∧ k < 64 * m ∧ Drew w w' := by
  have c1 : ((m : Int) == 0) = false := by simp; omega
  have HX := Lib.hid hx
  have hxN := hx.1
  have hle := hxN.le
  have htop := hx.2.2.resolve_left (by omega)
  clear hx
  go_enter Tryz.func204, Tryz.ntmps204
  go_wp2_with fail
  go_loopw [3] (fun i wr => ∃ k q : Nat, k < m ∧ i = .int .u64 k ∧ wr = w.drewN q ∧ Hid (∀ j, j < k → wd w xb (xo + j) = 0)) (fun i _ => m - (intOf i).toNat)
  case atStart => exact ⟨0, 0, by omega, rfl, rfl, Lib.hid fun j h => absurd h (by omega)⟩
  case round =>
    obtain ⟨k, q, hk, rfl, rfl, hZ⟩ := hrel
    have hwk := hxN.isW k (by omega)
    have cx := hwk.cell
    have i1 : (k : Int) < m := by omega
    by_cases h0 : wd w xb (xo + k) = 0
    · rw [h0] at cx
      have hkm : k + 1 < m := by
        rcases Nat.lt_or_ge (k + 1) m with h | h
        · exact h
        · exact absurd h0 (by rw [show k = m - 1 by omega]; exact htop)
      go_wp2_with fail
      go_roundw
      case rel =>
        refine ⟨k + 1, q, hkm, by go_num, rfl, Lib.hid fun j hj => ?_⟩
        rcases Nat.lt_or_ge j k with h | h
        · exact hZ.out j h
        · rw [show j = k by omega]; exact h0
      case measure => simp [intOf]; omega
    · have h0' : (((wd w xb (xo + k) : Nat) : Int) == 0) = false := by simp; omega
      obtain ⟨⟨j, hj⟩, ht64⟩ := ctz_spec hwk.lt h0
      obtain ⟨t, ht⟩ : ∃ t, t = Lib.ctz 64 (wd w xb (xo + k)) := ⟨_, rfl⟩
      have HJ := Lib.hid hj
      have A := Lib.hid (bits_tz (wd w xb (xo + k)) hwk.lt h0 (w.drewN q) (hg.drewN q))
      rw [← ht] at A HJ ht64
      have HT := Lib.hid ht
      clear hj ht
      go_wp2_with fail
      refine A.out.mono ?_
      rintro e w' ⟨rfl, rfl⟩
      go_wp2_with fail
      go_ret
      refine ⟨64 * k + t, j + (2 ^ (64 - t - 1)) * Val w xb (xo + (k + 1)) (m - (k + 1)), by go_num, ?_, by omega, ⟨_, rfl⟩⟩
      rw [← HX.out.2.1]
      exact tz_val hk hZ.out HJ.out ht64
end Go.Proofs.YtacfhndledcmgaaGreatDoor
