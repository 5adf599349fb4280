/- Lemmas for the law FnBackDecimal: Append with format f and no precision. Conditions: those in each theorem; none besides. -/
import Derived.Test.YtacfhndledcmgaaGreatDoorK32
import Derived.Test.YtacfhndledcmgaaGreatDoorK31
import Derived.Test.YtacfhndledcmgaaGreatDoorK20
import Derived.Test.YtacfhndledcmgaaGreatDoorK10
set_option linter.unusedVariables false
set_option linter.unusedSimpArgs false
namespace Go.Proofs.YtacfhndledcmgaaGreatDoor
open Go.RowKit
/-- A text that Parse reads in base 10, rounding to the nearest, as m0 times 2 to E0. -/
def ReadsD (l : List Nat) (P : Nat) (n : Bool) (m0 : Nat) (E0 : Int) : Prop :=
  ∀ (b : Nat) (eo : Addr) (W : World), 17 ≤ b → Fl W b P 0 0 0 false (.slice none 0 0) 0 → Glob W → P5 W → W.cell? ⟨0, 0, none⟩ = some (.iface 245 (.pointer (some eo))) → Calls Tryz.prog 82 #[.pointer (some ⟨b, 0, none⟩), .string (txt l), .int .i64 10] W (PaPostA b P 0 n m0 E0 10 W)
/-- A text in base 10 with an exponent is read. -/
theorem readsD_exp (n : Bool) (l ms ds : List Nat) (e : Int) (P : Nat) (st : Nat × Nat × Int) (m0 : Nat) (E0 : Int) (hl : l = sgn n ++ (ms ++ 101 :: (if decide (e < 0) then 45 else 43) :: ds)) (hms : ∀ x ∈ ms, x < 256) (hf : ms.getD 0 0 ≠ 45 ∧ ms.getD 0 0 ≠ 43) (hds : ∀ x ∈ ds, 48 ≤ x ∧ x ≤ 57) (hd0 : ds ≠ []) (hd6 : ds.length ≤ 6) (hdv : decV ds = e.natAbs)
    (hmlen : ms.length ≤ 1900) (hm0 : 0 < ms.length) (hg : Mnt 10 0 true (fun j => ms.getD j 0) ms.length) (hst : StN 10 0 (fun j => ms.getD j 0) ms.length = st) (hc : 0 < st.1) (hP0 : 0 < P) (hP2 : P ≤ 62) (he1 : -2000 ≤ e) (he2 : e ≤ 2000)
    (hn1 : 2 ^ (P - 1) < m0) (hn2 : m0 < 2 ^ P) (hres : ScRes P st.2.1 ((blen st.2.1 + 63) / 64) m0 ((if cntOut st < 0 then cntOut st else 0) + e) E0) (hN : st.2.1 ≠ 0) (hNb : blen st.2.1 ≤ 1500) : ReadsD l P n m0 E0 := by
  intro b eo W h17 hfl hG h5 hE
  obtain ⟨s0, hs0⟩ : ∃ s0, s0 = (sgn n).length := ⟨_, rfl⟩
  have hs1 : s0 ≤ 1 := by rw [hs0]; exact sgn_len n
  have hdp : 0 < ds.length := List.length_pos_iff.2 hd0
  have hlen : l.length = s0 + 2 + ms.length + ds.length := by rw [hl, hs0]; simp; omega
  have hlt : ∀ x ∈ l, x < 256 := by
    intro x hx
    rw [hl] at hx
    simp only [List.mem_append, List.mem_cons] at hx
    rcases hx with h | h | rfl | rfl | h
    · exact sgn_lt n x h
    · exact hms x h
    · decide
    · split <;> decide
    · have := hds x h; omega
  have gm : ∀ k, l.getD (s0 + k) 0 = (ms ++ 101 :: (if decide (e < 0) then 45 else 43) :: ds).getD k 0 := fun k => by
    rw [hl, getD_app (i := k) (by omega)]
  have gms : ∀ k, k < ms.length → ms.getD k 0 = l.getD (s0 + k) 0 := fun k hk => by rw [gm, getD_appl hk]
  have gp : l.getD (s0 + ms.length) 0 = 101 := by rw [gm, getD_app (i := 0) (by omega)]; rfl
  have gs1 : l.getD (s0 + ms.length + 1) 0 = if decide (e < 0) then 45 else 43 := by rw [Nat.add_assoc, gm, getD_app (i := 1) (by omega)]; rfl
  have hst2 : StN 10 0 (fun j => l.getD (s0 + j) 0) ms.length = st := by rw [← hst]; exact (StN_congr (fun k hk => gms k hk)).symm
  have hg2 : Mnt 10 0 true (fun j => l.getD (s0 + j) 0) ms.length := Mnt_congr (fun k hk => gms k hk) hg
  have hdrop : l.drop (s0 + ms.length + 2) = ds := by
    rw [hl, hs0, List.drop_append, List.drop_eq_nil_of_le (by omega), List.nil_append]
    rw [show (sgn n).length + ms.length + 2 - (sgn n).length = ms.length + 2 by omega, List.drop_append, List.drop_eq_nil_of_le (by omega), List.nil_append, show ms.length + 2 - ms.length = 2 by omega]
    rfl
  have hcnt := StN_cnt 10 0 (fun j => ms.getD j 0) ms.length
  rw [hst] at hcnt
  have hfl1 : l.getD s0 0 ≠ 45 ∧ l.getD s0 0 ≠ 43 := by have := gms 0 hm0; rw [Nat.add_zero] at this; rw [← this]; exact hf
  have hsA : SignAt n l s0 := by
    cases n
    · obtain rfl : s0 = 0 := hs0
      exact .inr ⟨rfl, hfl1.1, hfl1.2, rfl⟩
    · obtain rfl : s0 = 1 := hs0
      exact .inl ⟨rfl, by rw [hl]; rfl, rfl⟩
  have hNI : NotInf l := by
    refine ⟨by omega, fun h4 => ?_⟩
    obtain rfl : s0 = 0 := by omega
    exact ⟨hfl1.2, hfl1.1⟩
  refine parse_with10 m0 E0 b P n l s0 (s0 + ms.length) st e eo W hfl h17 hP0 hP2 hlt (by omega) (by omega) hNI hE hsA hG h5 (fun W r h1 h2 h3 => ?_) (fun W r h1 h2 h3 => ?_) hn1 hn2 hres hN hNb he1 he2 ⟨by omega, hcnt.2.2.1, hcnt.2.2.2⟩
  · have := nat_scan10 10 true r l s0 s0 ms.length 0 eo W h3 hlt (by omega) h2 (.inl ⟨rfl, rfl, rfl, rfl⟩) (by omega) hg2 (.inr (by rw [gp]; decide)) (by rw [hst2]; exact hc) h1
    rw [hst2] at this
    exact this
  · have := scan_exp false r l ds (s0 + ms.length) 101 10 (decide (e < 0)) eo W pi_ok h3 hlt (by omega) h2 gp (.inr ⟨rfl, rfl⟩) gs1 hdrop hd0 hds hd6 h1
    rw [hdv, sgI_nat] at this
    exact this
theorem head_ne {l : List Nat} (hl : ∀ x ∈ l, x < 256) {c : Nat} (hn : l.getD 0 0 ≠ c) (hc : c < 256) (r : List UInt8) (e : l.map UInt8.ofNat = UInt8.ofNat c :: r) : False := by
  cases l with
  | nil => simp at e
  | cons a t =>
    have h1 : UInt8.ofNat a = UInt8.ofNat c := (List.cons.inj e).1
    have h2 := congrArg UInt8.toNat h1
    have ha := hl a (by simp)
    simp [UInt8.toNat_ofNat'] at h2
    exact hn (show a = c by omega)
set_option maxRecDepth 1000000 in
set_option maxHeartbeats 8000000 in
theorem float_ParseA3 (bs b P M : Nat) (n : Bool) (N : Nat) (E : Int) (l : List Nat) (bb : Nat) (eo : Addr) (w : World) (hb : b < w.heap.size) (hl : ∀ x ∈ l, x < 256) (hlen : l.length ≤ 2000) (hL3 : l.length = 3) (hI : l.getD 0 0 ≠ 73 ∧ l.getD 0 0 ≠ 105)
    (hE : w.cell? ⟨0, 0, none⟩ = some (.iface 245 (.pointer (some eo)))) (hb17 : 17 ≤ b)
    (hsc : ∀ W, Chg No w W → RdAt W w.heap.size l 0 → Calls Tryz.prog 132 #[.pointer (some ⟨b, 0, none⟩), .iface 133 (.pointer (some ⟨w.heap.size, 0, none⟩)), .int .i64 bs] W (ScPostA W.heap.size b P M n N E w.heap.size l bb W)) :
    Calls Tryz.prog 82 #[.pointer (some ⟨b, 0, none⟩), .string (txt l), .int .i64 bs] w (PaPostA b P M n N E bb w) := by
  have h17 : 17 ≤ w.heap.size := by omega
  have H0 := Lib.hid (rdr_new l w h17)
  have HSc := Lib.hid hsc
  have q2 := eof_neq eo
  have HE := Lib.hid hE
  have hsz : (txt l).size = l.length := txt_size l
  have HS : Hid (∀ S : ByteArray, S = txt l → ∀ i (h : i < S.size), (S[i]'h).toNat = l.getD i 0) := Lib.hid (by rintro S rfl i h; exact txt_get h hl)
  have HL := Lib.hid hl
  obtain ⟨S, hS⟩ : ∃ S, S = txt l := ⟨_, rfl⟩
  rw [← hS] at hsz H0 ⊢
  have HSS := Lib.hid hS
  obtain ⟨g, hg⟩ : ∃ g, g = l.getD 0 0 := ⟨_, rfl⟩
  have HI : Hid (∀ h : 0 < S.size, (S[0]'h).toNat = g) := Lib.hid (by intro h; rw [hg]; exact HS.out S HSS.out 0 h)
  have hT : S.toList = l.map UInt8.ofNat := by rw [hS, ByteArray.toList_eq]; rfl
  have q3 : ¬ S.toList = [73, 110, 102] := fun e => head_ne hl hI.1 (c := 73) (by decide) _ (hT.symm.trans e)
  have q4 : ¬ S.toList = [105, 110, 102] := fun e => head_ne hl hI.2 (c := 105) (by decide) _ (hT.symm.trans e)
  have q5 : (S.toList == [73, 110, 102]) = false := beq_eq_false_iff_ne.2 q3
  have q6 : (S.toList == [105, 110, 102]) = false := beq_eq_false_iff_ne.2 q4
  have hS3 : S.size = 3 := by omega
  obtain ⟨L, hL⟩ : ∃ L, L = l.length := ⟨_, rfl⟩
  have HLL := Lib.hid hL
  rw [← hL] at hsz hlen hL3
  clear hsc hE hl hS hg hL HS hT hI
  subst hL3
  go_enter Tryz.func82, Tryz.ntmps82
  go_wp2_with fail
  refine H0.out.mono ?_
  rintro e w1 ⟨rfl, hr1, hk1⟩
  have HC := Lib.hid (HSc.out w1 hk1 hr1)
  have HK1 := Lib.hid hk1
  have HRL := Lib.hid hr1.2.1.lt
  clear hr1 hk1 HSc H0
  go_wp2_with fail
  refine HC.out.mono ?_
  rintro e w2 ⟨rfl, hfx, hr2, hk2⟩
  have HFX := Lib.hid hfx
  have HK2 := Lib.hid hk2
  have hrb : w.heap.size ≠ b := by omega
  have hE2 : w2.cell? ⟨0, 0, none⟩ = some (.iface 245 (.pointer (some eo))) := eof_chg (eof_chg HE.out HK1.out (fun f => f)) hk2 (fun f => by rcases f with f | f <;> omega)
  have H9 := Lib.hid (rdr_eof w.heap.size l _ w2 hr2 hE2 (by rw [← HLL.out]; omega))
  clear hfx hr2 hk2 HC
  go_wp2_with fail
  refine H9.out.mono ?_
  rintro e w3 ⟨rfl, hr3, hk3⟩
  have HK3 := Lib.hid hk3
  have hE3 : w3.cell? ⟨0, 0, none⟩ = some (.iface 245 (.pointer (some eo))) := eof_chg hE2 hk3 (fun f => by have h : (0 : Nat) = w.heap.size := f; omega)
  clear hr3 hk3 hE2
  go_wp2_with fail
  go_ret3
  obtain ⟨ac, N', k, xb, xo, m, xc, hac, hN, hBP, hx⟩ := HFX.out
  have hs1 := HK1.out.size
  have hrl := HRL.out
  refine ⟨rfl, ⟨ac, N', k, xb, xo, m, xc, hac, hN, hBP, (hx.lower hs1).chg HK3.out (fun o h => hrb h.symm) (fun i h => ?_)⟩, ?_⟩
  · have h1 : xb = w.heap.size := h
    have := hx.own
    omega
  · refine ((HK1.out.no (S := Blk b)).then HK2.out (fun x o hx f => ?_)).then HK3.out (fun x o hx f => ?_)
    · rcases f with f | f
      · omega
      · exact f
    · have h1 : x = w.heap.size := f
      omega
/-- A decimal's text without an exponent, as many places behind the point as it has. -/
def fTx (ds : List Nat) (x : Int) : List Nat := intTx ds x ++ fracTx ds x ((ds.length : Int) - x).toNat
/-- The text of the shortest decimal in one of the formats e, f and g. -/
def shF (c : Nat) (ds : List Nat) (x : Int) : List Nat := if c = 101 ∨ (c = 103 ∧ (x < -3 ∨ 7 ≤ x)) then eTx ds x (ds.length - 1) else fTx ds x
/-- The text of format c with as many figures as the value wants. -/
def ShOutC (c Y : Nat) (sh : Int) (MM : Nat) (t : Int) (l : List Nat) : Prop :=
  ∃ ds x ls xl us xu ds' x', DecPure Y sh ds x ∧ DecPure (MM - 1) t ls xl ∧ DecPure (MM + 1) t us xu ∧ ShAll ds ls us x (MM / 2 % 2 = 0) ds' x' ∧ l = shF c ds' x'
set_option maxRecDepth 100000 in
set_option maxHeartbeats 2000000 in
theorem dec_fmtF2 (z : Value) (pre : List Nat) (k mb mo mc b : Nat) (ds : List Nat) (x : Int) (w : World) (hz : Ls .u8 256 w z pre) (h : DeX w b mb mo mc ds x) (hpre : pre.length ≤ 1000) (hk : k ≤ 200000) (hl : ds.length ≤ 200000)
    (hx1 : -100000000 ≤ x) (hx2 : x ≤ 1000000) (hzm : ∀ y o, Fp z y o → y ≠ mb) (h0 : 0 < ds.length ∨ x ≤ 0) (h17 : 17 ≤ w.heap.size) :
    Calls Tryz.prog 198 #[z, .int .i64 k, .agg #[.slice (some ⟨mb, mo, none⟩) ds.length mc, .int .i64 x]] w fun e w' => ∃ r, e = .returned r ∧ App .u8 256 w w' z r (pre ++ intTx ds x ++ fracTx ds x k) := by
  have hD := h.box h17
  have A0 := (App.refl hz).no ((Chg.refl No w).alloc (.cells #[.slice (some ⟨mb, mo, none⟩) ds.length mc, .int .i64 x] 235))
  have hlt : ∀ y o, Fp z y o → y < w.heap.size := fun y o f => (hz.fp_lt f).1
  have keep : Hid (∀ w' r l, App .u8 256 (w.alloc (.cells #[.slice (some ⟨mb, mo, none⟩) ds.length mc, .int .i64 x] 235)) w' z r l → DeX w' w.heap.size mb mo mc ds x) := Lib.hid fun w' r l ha => hD.chg ha.chg (fun o f => by have := hlt _ _ f; omega) (fun o f => hzm _ _ f rfl)
  have hA1 : App .u8 256 (w.alloc (.cells #[.slice (some ⟨mb, mo, none⟩) ds.length mc, .int .i64 x] 235)) (w.alloc (.cells #[.slice (some ⟨mb, mo, none⟩) ds.length mc, .int .i64 x] 235)) z z pre := App.refl (hz.alloc km8 _)
  have HA0 := Lib.hid A0
  have HA1 := Lib.hid hA1
  have D10 := Lib.hid h.d10
  have h17' : 17 ≤ (w.alloc (.cells #[.slice (some ⟨mb, mo, none⟩) ds.length mc, .int .i64 x] 235)).heap.size := by rw [hsz]; omega
  clear hA1 A0 hD hz
  go_enter Tryz.func198, Tryz.ntmps198
  go_upto_if 11 with fail
  generalize w.alloc (.cells #[.slice (some ⟨mb, mo, none⟩) ds.length mc, .int .i64 x] 235) = w1 at *
  go_cut [0] (fun zv wx => Hid (App .u8 256 w1 wx z zv (pre ++ intTx ds x)))
  case first =>
    have hD1 := keep.out _ _ _ HA1.out
    have b0 := hD1.c0
    have b1 := hD1.c1
    by_cases hx : 0 < x
    · obtain ⟨X, rfl⟩ : ∃ X : Nat, x = (X : Int) := ⟨x.toNat, by omega⟩
      obtain ⟨m, hm⟩ : ∃ m, m = min ds.length X := ⟨_, rfl⟩
      have em : min (ds.length : Int) (X : Int) = (m : Int) := by omega
      have hm0 : 0 < m := by omega
      have i1 : (m : Int) ≤ mc := by have := hD1.nb.le; omega
      have hml : m ≤ ds.length := by omega
      have hmX : m ≤ X := by omega
      have hI : intTx ds (X : Int) = (List.range X).map fun i => atD ds (i : Nat) := by unfold intTx; rw [if_pos hx, Int.toNat_natCast]
      have hcells : ∀ j (hj : j < (asc (ds.take m)).length), w1.cell? ⟨mb, mo + j, none⟩ = some (.int .u8 ((asc (ds.take m))[j] : Nat)) := fun j hj => by
        rw [asc_length, List.length_take] at hj
        rw [hD1.cell (j := j) (by omega), asc_get, gd_lt (l := ds.take m) (by rw [List.length_take]; omega), List.getElem_take, ← gd_lt (by omega)]
      have HC := Lib.hid hcells
      have HV := Lib.hid (asc_lt (l := ds.take m) (fun d hd => D10.out d (List.mem_of_mem_take hd)))
      have HLen := Lib.hid (show m = (asc (ds.take m)).length by rw [asc_length, List.length_take]; omega)
      have HM := Lib.hid (show m < X → ds.length ≤ m by omega)
      clear hm hcells
      go_wp2_with (refine wpList_appS (w0 := w1) (z0 := z) (l := pre) (vs := asc (ds.take m)) (n := m) rfl (.tmp 18) (.tmp 22) rfl rfl rfl HLen.out HA1.out HV.out HC.out ?_ ?_ h17' ?_; (rw [← HLen.out]; exact hm0); (rw [← HLen.out]; omega); intro r w2 ha; rw [asc_range hml] at ha; have HA := Lib.hid ha; clear ha)
      go_loopg [0, 7] X (fun gk zv mv wr => ∃ m : Nat, mv = .int .i64 m ∧ Hid (App .u8 256 w1 wr z zv (pre ++ (List.range m).map fun i => atD ds (i : Nat))) ∧ m ≤ X ∧ Hid (m < X → ds.length ≤ m) ∧ Hid (X - m ≤ gk))
      case atStart => exact ⟨m, rfl, HA, hmX, HM, Lib.hid (Nat.sub_le _ _)⟩
      case round =>
        clear HA HM hmX
        obtain ⟨m', rfl, q1, q2, q3, q4⟩ := hrel
        have b1' := (keep.out _ _ _ q1.out).c1
        by_cases hlt : m' < X
        · have j1 : (m' : Int) < X := by omega
          have hat : atD ds ((m' : Nat) : Int) = 48 := by unfold atD; rw [if_neg (by omega), Int.toNat_natCast, gd_ge (q3.out hlt)]
          have HAT := Lib.hid hat
          obtain ⟨g1, hg1⟩ : ∃ g1, gk = g1 + 1 := ⟨gk - 1, by have := q4.out; omega⟩
          have HG := Lib.hid (show X - (m' + 1) ≤ g1 by have := q4.out; omega)
          subst hg1
          clear hat
          go_wp2_with (refine wpList_app1 (w0 := w1) (z0 := z) (c := 48) rfl (.tmp 30) (.tmp 31) rfl rfl rfl q1.out (by omega) ?_ h17' ?_; (simp; omega); intro r w3 ha; have HA := Lib.hid ha; clear ha)
          go_roundg g1
          case measure => omega
          case rel => exact ⟨m' + 1, by go_num, Lib.hid (by rw [range_snoc, HAT.out, ← List.append_assoc]; exact HA.out), by omega, Lib.hid (fun _ => by have := q3.out hlt; omega), HG⟩
        · have j1 : ¬ (m' : Int) < X := by omega
          go_wp2_with fail
          go_meet
          rw [hI, show X = m' by omega]; exact q1
    · have hI : intTx ds x = [48] := if_neg hx
      go_wp2_with (refine wpList_app1 (w0 := w1) (z0 := z) (l := pre) (c := 48) rfl (.tmp 33) (.tmp 34) rfl rfl rfl HA1.out (by omega) (by omega) h17' ?_; intro r w2 ha; have HA := Lib.hid ha; clear ha)
      go_meet
      rw [hI]; exact HA
  case rest =>
    have hfin : ∀ wr r l, App .u8 256 w1 wr z r l → App .u8 256 w wr z r l := fun wr r l ha => HA0.out.trans ha
    have HFin := Lib.hid hfin
    have hil : (pre ++ intTx ds x).length ≤ 1001000 := by
      rw [List.length_append]
      unfold intTx
      split <;> simp <;> omega
    clear hfin HA1
    by_cases hk0 : k = 0
    · subst hk0
      have hF : fracTx ds x 0 = [] := by simp [fracTx]
      go_wp2_with fail
      go_ret
      refine ⟨_, rfl, ?_⟩
      rw [hF, List.append_nil]; exact HFin.out _ _ _ hcut.out
    · have i1 : (0 : Int) < k := by omega
      have tb : decide (0 < k) = true := decide_eq_true (by omega)
      have hF : fracTx ds x k = 46 :: (List.range k).map fun i => atD ds (x + (i : Nat)) := by unfold fracTx; rw [if_pos (by omega)]
      have HF := Lib.hid hF
      have HI := Lib.hid hil
      clear hF hil hk0
      go_wp2_with (refine wpList_app1 (w0 := w1) (z0 := z) (c := 46) rfl (.tmp 38) (.tmp 39) rfl rfl rfl hcut.out (by omega) ?_ h17' ?_; (have := HI.out; omega); intro r w3 ha; have HA := Lib.hid ha; clear ha)
      go_loopg [0, 8] k (fun gk zv mv wr => ∃ m : Nat, mv = .int .i64 m ∧ Hid (App .u8 256 w1 wr z zv ((pre ++ intTx ds x) ++ (46 :: (List.range m).map fun i => atD ds (x + (i : Nat))))) ∧ m ≤ k ∧ Hid (k - m ≤ gk))
      case atStart => exact ⟨0, rfl, HA, by omega, Lib.hid (Nat.sub_le _ _)⟩
      case round =>
        clear HA
        obtain ⟨m, rfl, q1, q2, q3⟩ := hrel
        have hDr := keep.out _ _ _ q1.out
        have b1 := hDr.c1
        have HAt := Lib.hid (dec_at _ mb mo mc ds x (x + (m : Int)) wr hDr hl (by omega) (by omega))
        clear hDr
        by_cases hlt : m < k
        · have j1 : (m : Int) < k := by omega
          obtain ⟨y, hy⟩ : ∃ y, y = atD ds (x + (m : Nat)) := ⟨_, rfl⟩
          rw [← hy] at HAt
          have hyb : y < 58 := by rw [hy]; exact atD_lt D10.out _
          have HY := Lib.hid hy
          obtain ⟨g1, hg1⟩ : ∃ g1, gk = g1 + 1 := ⟨gk - 1, by have := q3.out; omega⟩
          have HG := Lib.hid (show k - (m + 1) ≤ g1 by have := q3.out; omega)
          subst hg1
          clear hy
          go_wp2_with (first
            | (go_at_call 250; refine HAt.out.mono ?_; rintro e w4 ⟨rfl, rfl⟩)
            | (refine wpList_app1 (w0 := w1) (z0 := z) (c := y) rfl (.tmp 46) (.tmp 52) rfl rfl rfl q1.out (by omega) ?_ h17' ?_; (have := HI.out; simp at this ⊢; omega); intro r w3 ha; have HA := Lib.hid ha; clear ha))
          go_roundg g1
          case measure => omega
          case rel => exact ⟨m + 1, by go_num, Lib.hid (by rw [range_snoc, ← HY.out]; have := HA.out; rwa [List.append_assoc, List.cons_append] at this), by omega, HG⟩
        · obtain rfl : m = k := by omega
          go_wp2_with fail
          go_ret
          refine ⟨_, rfl, ?_⟩
          rw [HF.out]; exact HFin.out _ _ _ q1.out
set_option maxRecDepth 100000 in
set_option maxHeartbeats 4000000 in
theorem append_sf (buf : Value) (pre : List Nat) (base b P M : Nat) (n : Bool) (X : Nat) (E : Int) (xb xo m xc G MM : Nat) (t : Int) (w : World) (hb : Ls .u8 256 w buf pre) (hx : FlX w base b P M n X E xb xo m xc) (hpre : pre.length ≤ 500) (hm : m ≤ 300)
    (hE1 : -200 ≤ E) (hE2 : E ≤ 200) (hG : G = P + 1 - blen X) (ht : t = E - G) (hM : MM = X * 2 ^ G) (hX2 : 2 ≤ X) (hbP : blen X ≤ P) (hP : P ≤ 100) (hbb : ∀ y o, Fp buf y o → y ≠ b ∧ y ≠ xb) (hg : Glob w) (hSm : Small (upTo X m * 2 ^ (shOf X m E).toNat)) (hxb : ∀ ds x, DecPure (upTo X m) (shOf X m E) ds x → -800 ≤ x ∧ x ≤ 800) (hI : ∀ A, A ≠ 0 → A ≤ upTo X m * 2 ^ (shOf X m E).toNat → ItoaOk A) :
    Calls Tryz.prog 125 #[.pointer (some ⟨b, 0, none⟩), buf, .int .u8 102, .int .i64 (-1)] w fun e w' => ∃ r, e = .returned r ∧ ∃ l, ShOutC 102 (upTo X m) (shOf X m E) MM t l ∧ App .u8 256 w w' buf r (pre ++ sgn n ++ l) := by
  have h17 := hg.size
  have HMM := Lib.hid (And.intro hG (And.intro ht (And.intro hM (And.intro hX2 hbP))))
  clear hG ht hM hX2 hbP
  obtain ⟨c0, c1, c2, c3, c4, c5, c6, -, -, -, -, -⟩ := hx.fl
  have A0 := Lib.hid (App.refl hb)
  go_enter Tryz.func125, Tryz.ntmps125
  go_upto_if 16 with fail
  go_cut [1] (fun zv wx => ∃ pre', Hid (App .u8 256 w wx buf zv pre') ∧ Hid (pre' = pre ++ sgn n))
  case first =>
    cases n
    · go_wp2_with fail
      go_meet
      exact ⟨pre, A0, Lib.hid (by simp [sgn])⟩
    · go_wp2_with (refine wpList_app1 (w0 := w) (z0 := buf) (l := pre) (c := 45) rfl (.tmp 17) (.tmp 18) rfl rfl rfl A0.out (by omega) (by omega) h17 ?_; intro r w2 ha; have HA := Lib.hid ha; clear ha)
      go_meet
      exact ⟨pre ++ [45], HA, Lib.hid (by simp [sgn])⟩
  case rest =>
    obtain ⟨pre', HA, HP⟩ := hcut
    generalize wc = wa at *
    have hx1 := hx.chg HA.out.chg (fun o f => (hbb _ _ f).1 rfl) (fun o f => (hbb _ _ f).2 rfl)
    have hlt := hx1.fl.lt
    have hX0 := hx1.X0
    have hbl := blen_upTo hX0 hx1.m0 hx1.hi
    have hblX := hx1.hi
    have hblo := hx1.lo
    obtain ⟨bX, hbX⟩ : ∃ bX, bX = blen X := ⟨_, rfl⟩
    obtain ⟨bM, hbM⟩ : ∃ bM, bM = 64 * m := ⟨_, rfl⟩
    obtain ⟨sh, hsh⟩ : ∃ sh : Int, sh = (bX : Int) + E - (bM : Int) := ⟨_, rfl⟩
    have hsh2 : sh = shOf X m E := by unfold shOf; rw [hsh, hbX, hbM]
    have ib1 : bX ≤ 20000 := by omega
    have ib2 : bM ≤ 20000 := by omega
    have esh : (bX : Int) + E - (bM : Int) = sh := hsh.symm
    have ew1 : IntKind.i64.wrap ((bX : Int) + E) = (bX : Int) + E := IntWalk.i64_in _ (by omega)
    have ew2 : IntKind.i64.wrap sh = sh := IntWalk.i64_in _ (by omega)
    obtain ⟨c0, c1, c2, c3, c4, c5, c6, -, -, -, -, -⟩ := hx1.fl
    rw [← hbX] at c6
    have hgW : Glob wa := ⟨Nat.le_trans hg.size HA.out.chg.size, fun bb oo v e => (HA.out.chg.cell bb oo (Nat.lt_of_lt_of_le (gcell_lt e) hg.size) (fun f => by have := (hb.fp_lt f).2; have := gcell_lt e; omega)).trans (hg.cell bb oo v e)⟩
    have hbwc := fun y o (f : Fp buf y o) => (hb.fp_lt f).1
    have HW : Hid (∀ W, W = wa.alloc (.cells #[.slice none 0 0, .int .i64 0] 235) → (∀ j, Calls Tryz.prog 194 #[.slice (some ⟨xb, xo, none⟩) m xc] (W.drewN j) fun e w' => e = .returned (.int .i64 bM) ∧ ∃ j, w' = W.drewN j) ∧
        (∀ j, Calls Tryz.prog 193 #[.pointer (some ⟨wa.heap.size, 0, none⟩), .slice (some ⟨xb, xo, none⟩) m xc, .int .i64 sh] (W.drewN j) fun e w' => e = .returned (.tuple #[]) ∧ ∃ xb' xo' xc' ds x, DecIs w' wa.heap.size (upTo X m) sh xb' xo' xc' ds x ∧ wa.heap.size < xb' ∧ Chg No wa w')) := Lib.hid (by
      rintro W rfl
      have hk := (Chg.refl No wa).alloc (.cells #[.slice none 0 0, .int .i64 0] 235)
      have hnW := hx1.nt.chg hk (fun _ _ f => f)
      have hsmall : Small (upTo X m) := small_le hSm (Nat.le_mul_of_pos_right _ (Nat.two_pow_pos _))
      refine ⟨fun j => ?_, fun j => ?_⟩
      · have := nat_bitLen_d _ _ _ hnW.nt hsmall j
        rw [hbl, ← hbM] at this
        exact this
      · have hy0 : upTo X m ≠ 0 := by have := upTo_ge hX0 hx1.hi; have := Nat.two_pow_pos (64 * m - 1); omega
        have hs17 : 17 ≤ wa.heap.size := hgW.size
        refine (dec_init wa.heap.size xb xo m xc (upTo X m) sh ((wa.alloc (.cells #[.slice none 0 0, .int .i64 0] 235)).drewN j) (hnW.drewN j) hx1.m0 (by omega) hy0 (World.cell?_alloc_new _ _ _ _) (World.cell?_alloc_new _ _ _ _) (Plain.new _ _ _) hs17 ((hgW.no hk).drewN j) (by omega) (by omega) (by rw [hsh2]; exact hSm) (by rw [hsh2]; exact hI)).mono ?_
        rintro e w' ⟨h1, xb', xo', xc', ds, x, h2, h3, h4⟩
        refine ⟨h1, xb', xo', xc', ds, x, h2, ?_, (hk.drewN j).then h4 (fun y o hy f => ?_)⟩
        · have h5 : (wa.alloc (.cells #[.slice none 0 0, .int .i64 0] 235)).heap.size ≤ xb' := h3
          rw [hsz] at h5; omega
        · exact absurd f (Nat.ne_of_lt hy))
    have HSH := Lib.hid hsh2
    clear hbX hbM hsh hsh2 hbl hblX hX0 hblo
    go_upto_if 56 with fail
    generalize hWe : wa.alloc (.cells #[.slice none 0 0, .int .i64 0] 235) = W
    obtain ⟨H4, H3⟩ := HW.out W hWe.symm
    have H4 := Lib.hid H4
    have H3 := Lib.hid H3
    have k6 : Chg No wa W := by rw [← hWe]; exact (Chg.refl No wa).alloc _
    have d5 := (k6.cell b 5 hlt (fun f => f)).trans c5
    have d6 := (k6.cell b 6 hlt (fun f => f)).trans c6
    have d4 := (k6.cell b 4 hlt (fun f => f)).trans c4
    clear HW k6 hWe c5 c6
    go_cut [9] (fun dv wx => dv = .pointer (some ⟨wa.heap.size, 0, none⟩) ∧ ∃ (yb yo yc : Nat) (ds : List Nat) (x : Int), Hid (DecIs wx wa.heap.size (upTo X m) sh yb yo yc ds x) ∧ Hid (wa.heap.size < yb) ∧ Hid (Chg No wa wx))
    case first =>
      go_wp2_with fail
      go_region_with (first
        | (go_at_call 194; refine (H4.out _).mono ?_; rintro e w2 ⟨rfl, j, rfl⟩)
        | (go_at_call 193; (with_reducible refine (H3.out _).mono ?_); rintro e w3 ⟨rfl, yb, yo, yc, ds, x, hd1, hd2, hd3⟩; have HD1 := Lib.hid hd1; have HD2 := Lib.hid hd2; have HD3 := Lib.hid hd3; clear hd1 hd2 hd3))
      all_goals (go_wp2_with fail; go_meet; exact ⟨rfl, yb, yo, yc, ds, x, HD1, HD2, HD3⟩)
    case rest =>
      obtain ⟨rfl, yb, yo, yc, ds, x, HD1, HD2, HD3⟩ := hcut
      have hgc := hgW.no HD3.out
      have hds := HD1.out
      obtain ⟨g1, g2, g3, g4, g5, g6, g7, g8⟩ := hds
      have HAc := Lib.hid (HA.out.no HD3.out)
      have hd4 := (HD3.out.cell b 4 hlt (fun f => f)).trans c4
      have hub : ∀ y o, Fp u1 y o → y < wa.heap.size := fun y o f => (HA.out.ls.fp_lt f).1
      have hord : DOrd ds := ⟨g3, g4, g5, g1.d10⟩
      have hxc := hx1.chg HD3.out (fun _ f => f) (fun _ f => f)
      have HR := Lib.hid (dec_roundShortest _ yb yo yc ds x base b P M n X E t G MM xb xo m xc wc g1 hord g6 g7 g8 hxc hgc HMM.out.1 HMM.out.2.1 HMM.out.2.2.1 HMM.out.2.2.2.1 HMM.out.2.2.2.2 hP hE1 hE2)
      have HOrd := Lib.hid hord
      clear g1 g2 g3 g4 g5 g6 g7 g8 hord hxc
      go_wp2_with fail
      refine HR.out.mono ?_
      rintro e w5 ⟨rfl, ds', x', ls, us, xl, xu, hl1, hu1, hall, hd, hk5⟩
      have HAll := Lib.hid (And.intro hl1 (And.intro hu1 hall))
      have hbnd := hall.bnd HOrd.out
      have hsz5 := HA.out.chg.size
      have HA5 := Lib.hid (HAc.out.step hk5 (fun y o f g => by
        have := hub y o g
        rcases f with f | f
        · omega
        · have := HD2.out; omega) (fun y o hy f => by
        rcases f with f | f
        · omega
        · have := HD2.out; omega))
      have hpl : pre'.length ≤ 501 := by rw [HP.out]; cases n <;> simp [sgn] <;> omega
      obtain ⟨i1, i2, i3, i4, i5, i6, i7, i8⟩ := HD1.out
      have hxx := hxb ds x ⟨by rw [← HSH.out]; exact i2, i3, i4, i5, i1.d10, i7, i8⟩
      have hg5 : Glob w5 := hgc.chg hk5 (fun y o f => by
        rcases f with f | f
        · have := hgW.size; omega
        · have := HD2.out; have := hgW.size; omega)
      have hd0 := hbnd.1.1
      have hlb : ds'.length ≤ 100000 := by omega
      have hxb2 : -1000 ≤ x' ∧ x' ≤ 1000 := by omega
      obtain ⟨k, hk⟩ : ∃ k : Nat, k = ((ds'.length : Int) - x').toNat := ⟨_, rfl⟩
      have HF := Lib.hid (dec_fmtF2 u1 pre' k yb yo yc _ ds' x' w5 HA5.out.ls hd (by omega) (by omega) (by omega) (by omega) (by omega) (fun y o f => by have := hub y o f; have := HD2.out; omega) (.inl hbnd.1.1) hg5.size)
      have e0 := hd.c0
      have e1 := hd.c1
      have HK := Lib.hid hk
      obtain ⟨L, hL⟩ : ∃ L, L = ds'.length := ⟨_, rfl⟩
      rw [← hL] at HF e0 hlb hd0
      have HL := Lib.hid hL
      have ewL : IntKind.i64.wrap ((L : Int) - x') = (L : Int) - x' := IntWalk.i64_in _ (by omega)
      have emx : max ((L : Int) - x') 0 = (k : Int) := by omega
      clear hd hk5 hpl hxx hg5 i1 i2 i3 i4 i5 i6 i7 i8 hl1 hu1 hall hbnd hk hL
      have HSF : Hid (shF 102 ds' x' = intTx ds' x' ++ fracTx ds' x' k) := Lib.hid (by unfold shF fTx; rw [if_neg (by omega), HK.out])
      go_wp2_with fail
      refine HF.out.mono ?_
      rintro e w6 ⟨r, rfl, ha⟩
      have HA6 := Lib.hid (HA5.out.trans ha)
      clear ha
      go_wp2_with fail
      go_ret
      obtain ⟨i1, i2, i3, i4, i5, i6, i7, i8⟩ := HD1.out
      refine ⟨r, rfl, _, ⟨ds, x, ls, xl, us, xu, ds', x', ⟨by rw [← HSH.out]; exact i2, i3, i4, i5, i1.d10, i7, i8⟩, HAll.out.1, HAll.out.2.1, HAll.out.2.2, rfl⟩, ?_⟩
      rw [← HP.out, HSF.out]
      rw [← List.append_assoc]; exact HA6.out
end Go.Proofs.YtacfhndledcmgaaGreatDoor
