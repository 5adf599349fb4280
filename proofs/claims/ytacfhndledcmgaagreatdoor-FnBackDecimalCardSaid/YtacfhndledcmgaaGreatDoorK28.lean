/- Lemmas for the law FnBackDecimal: the exponent, Float.scan, Float.Parse. Conditions: those in each theorem; none besides. -/
import Derived.Test.YtacfhndledcmgaaGreatDoorK7
import Derived.Test.YtacfhndledcmgaaGreatDoorK27
import Derived.Test.YtacfhndledcmgaaGreatDoorM173
import Derived.Test.YtacfhndledcmgaaGreatDoorK11
import Derived.Test.YtacfhndledcmgaaGreatDoorK26
set_option linter.unusedVariables false
set_option linter.unusedSimpArgs false
namespace Go.Proofs.YtacfhndledcmgaaGreatDoor
open Go.RowKit
/-- Where the digits in base 10 begin. -/
def Head10 (base : Nat) (fo : Bool) (l : List Nat) (s0 s c0 : Nat) : Prop :=
  (base = 10 ∧ fo = true ∧ s = s0 ∧ c0 = 0) ∨ (base = 0 ∧ s0 < l.length ∧ l.getD s0 0 ≠ 48 ∧ s = s0 ∧ c0 = 0) ∨
  (base = 0 ∧ s0 < l.length ∧ l.getD s0 0 = 48 ∧ s = s0 + 1 ∧ c0 = 1 ∧ (s0 + 1 = l.length ∨ (s0 + 1 < l.length ∧ fo = true ∧ (l.getD (s0 + 1) 0 < 66 ∨ l.getD (s0 + 1) 0 = 101))))
set_option maxRecDepth 1000000 in
set_option maxHeartbeats 8000000 in
theorem nat_scan10 (base : Nat) (fo : Bool) (r : Nat) (l : List Nat) (s0 s M c0 : Nat) (eo : Addr) (w : World) (hR : RdAt w r l s0) (hl : ∀ x ∈ l, x < 256) (hlen : l.length ≤ 2000)
    (hE : w.cell? ⟨0, 0, none⟩ = some (.iface 245 (.pointer (some eo)))) (hH : Head10 base fo l s0 s c0) (hM : s + M ≤ l.length) (hg : Mnt 10 c0 fo (fun j => l.getD (s + j) 0) M)
    (hT : s + M = l.length ∨ (97 ≤ l.getD (s + M) 0 ∧ l.getD (s + M) 0 ≤ 122)) (hc : 0 < (StN 10 c0 (fun j => l.getD (s + j) 0) M).1) (h17 : 17 ≤ w.heap.size) :
    Calls Tryz.prog 89 #[.slice none 0 0, .iface 133 (.pointer (some ⟨r, 0, none⟩)), .int .i64 base, .bool fo] w (ScanOut 10 r l (s + M) (StN 10 c0 (fun j => l.getD (s + j) 0) M) w) := by
  have hs0 : s0 ≤ l.length := by rcases hH with ⟨_, _, h, _⟩ | ⟨_, h, _⟩ | ⟨_, h, _⟩ <;> omega
  have hr17 := hR.2.2
  have hrs := hR.2.1.lt
  have H0 := Lib.hid (rdr_next eo r l s0 w hR hl hs0 (by omega) hE)
  have H1 : Hid (∀ W i, RdAt W r l i → i ≤ l.length → W.cell? ⟨0, 0, none⟩ = some (.iface 245 (.pointer (some eo))) → Calls Tryz.prog 90 #[.pointer (some ⟨r, 0, none⟩)] W (CurOut eo r l i W)) := Lib.hid fun W i h1 h2 h3 => rdr_next eo r l i W h1 hl h2 (by omega) h3
  have m1 := meth_read (.pointer (some ⟨r, 0, none⟩))
  have h0r : r ≠ 0 := by omega
  have HE := Lib.hid hE
  have HG := Lib.hid hg
  have HT := Lib.hid hT
  have HC := Lib.hid hc
  have HL := Lib.hid hl
  have HH := Lib.hid hH
  obtain ⟨Q0, hQ0⟩ : ∃ Q0, Q0 = ScanOut 10 r l (s + M) (StN 10 c0 (fun j => l.getD (s + j) 0) M) w := ⟨_, rfl⟩
  rw [← hQ0]
  have HQ0 : Hid (∀ e w', ScanOut 10 r l (s + M) (StN 10 c0 (fun j => l.getD (s + j) 0) M) w e w' → Q0 e w') := Lib.hid (by rw [hQ0]; exact fun _ _ h => h)
  clear hE hg hT hc hl hR hH hQ0
  rcases HH.out with ⟨rfl, rfl, rfl, rfl⟩ | ⟨rfl, hlt, hne, rfl, rfl⟩ | ⟨rfl, hlt, h48, rfl, rfl, ho⟩
  · go_enter Tryz.func89, Tryz.ntmps89
    go_upto_if 8 with fail
    refine H0.out.mono ?_
    rintro e w1 ⟨chv, errv, rfl, hcur, hk⟩
    have HCur := Lib.hid hcur
    have HK := Lib.hid hk
    clear hcur hk
    go_upto_region 31 with (show Code.wp _ (Code.seq (Code.region 31 _ _) _) _ _ _; exact scan_rest10 (base := 10) r l s M 0 eo w HL.out hlen HE.out hM HG.out HT.out HC.out h17 hr17 hrs (.inl rfl) HCur.out HK.out (by omega) HQ0.out)
  · cases fo
    all_goals
      go_enter Tryz.func89, Tryz.ntmps89
      go_upto_if 8 with fail
      refine H0.out.mono ?_
      rintro e w1 ⟨chv, errv, rfl, hcur, hk⟩
      have HCur := Lib.hid hcur
      have HK := Lib.hid hk
      obtain ⟨-, rfl, rfl, -⟩ := hcur.resolve_right (fun h => by have := h.1; omega)
      obtain ⟨c, hcd⟩ : ∃ c, c = l.getD s 0 := ⟨_, rfl⟩
      have hne' : c ≠ 48 := by rw [hcd]; exact hne
      rw [← hcd] at HCur ⊢
      have t48 : ((c : Int) == 48) = false := by simp; omega
      clear hcur hk hcd hne hne'
      go_upto_region 31 with (show Code.wp _ (Code.seq (Code.region 31 _ _) _) _ _ _; exact scan_rest10 (base := 0) r l s M 0 eo w HL.out hlen HE.out hM HG.out HT.out HC.out h17 hr17 hrs (.inl rfl) HCur.out HK.out (by omega) HQ0.out)
  · cases fo
    all_goals
      go_enter Tryz.func89, Tryz.ntmps89
      go_upto_if 8 with fail
      refine H0.out.mono ?_
      rintro e w1 ⟨chv, errv, rfl, hcur, hk⟩
      have HK := Lib.hid hk
      obtain ⟨-, rfl, rfl, hR1⟩ := hcur.resolve_right (fun h => by have := h.1; omega)
      rw [h48]
      have HR1 := Lib.hid (H1.out w1 (s0 + 1) hR1 (by omega) (eof_chg HE.out hk (fun f => h0r f.symm)))
      clear hcur hk hR1
      go_wp2_with fail
      refine HR1.out.mono ?_
      rintro e w2 ⟨chv, errv, rfl, hcur, hk⟩
      have HCur := Lib.hid hcur
      have HK2 := Lib.hid (HK.out.then hk (fun _ _ _ f => f))
      rcases hcur with ⟨hlt2, rfl, rfl, -⟩ | ⟨he, rfl, rfl, -⟩
      · first
        | (rcases ho with ho | ⟨-, ho, -⟩ <;> first | omega | (exact absurd ho (by decide)))
        | (obtain ⟨c, hcd⟩ : ∃ c, c = l.getD (s0 + 1) 0 := ⟨_, rfl⟩
           have hc2 := (ho.resolve_left (by omega)).2.2
           rw [← hcd] at HCur hc2 ⊢
           have u1 : ((c : Int) == 98) = false := by simp; omega
           have u2 : ((c : Int) == 66) = false := by simp; omega
           have u3 : ((c : Int) == 111) = false := by simp; omega
           have u4 : ((c : Int) == 79) = false := by simp; omega
           have u5 : ((c : Int) == 120) = false := by simp; omega
           have u6 : ((c : Int) == 88) = false := by simp; omega
           clear hcd hc2 hk ho
           go_upto_region 31 with (show Code.wp _ (Code.seq (Code.region 31 _ _) _) _ _ _; exact scan_rest10 (base := 0) r l (s0 + 1) M 1 eo w HL.out hlen HE.out hM HG.out HT.out HC.out h17 hr17 hrs (.inr rfl) HCur.out HK2.out (by omega) HQ0.out))
      · clear he hk
        go_upto_region 31 with (show Code.wp _ (Code.seq (Code.region 31 _ _) _) _ _ _; exact scan_rest10 (base := 0) r l (s0 + 1) M 1 eo w HL.out hlen HE.out hM HG.out HT.out HC.out h17 hr17 hrs (.inr rfl) HCur.out HK2.out (by omega) HQ0.out)
theorem getD_get {ds : List Nat} {k : Nat} (h : k < ds.length) : ds.getD k 0 = ds[k] := by
  rw [List.getD_eq_getElem?_getD, List.getElem?_eq_getElem h]; rfl
/-- The number of decimal digits. -/
def decV (ds : List Nat) : Nat := ds.foldl (fun a c => a * 10 + (c - 48)) 0
def sgI (sg : Bool) (n : Nat) : Int := if sg then -(n : Int) else n
/-- A slice in new blocks. -/
def FpN (w : World) (z : Value) : Prop := ∀ x o, Fp z x o → w.heap.size ≤ x
/-- What strconv.ParseInt tells of few digits. -/
def PiOk : Prop := ∀ (sg : Bool) (ds : List Nat) (W : World), ds ≠ [] → (∀ x ∈ ds, 48 ≤ x ∧ x ≤ 57) → ds.length ≤ 6 → Calls Tryz.prog 153 #[.string (txt ((if sg then [45] else []) ++ ds)), .int .i64 10, .int .i64 64] W fun e w' => e = .returned (.tuple #[.int .i64 (sgI sg (decV ds)), .nilIface]) ∧ Chg No W w'
/-- What scanExponent says. -/
def ExpOut (r : Nat) (l : List Nat) (v : Int) (eb : Nat) (w : World) (e : Ending) (w' : World) : Prop :=
  e = .returned (.tuple #[.int .i64 v, .int .i64 eb, .nilIface]) ∧ RdAt w' r l l.length ∧ Chg (Blk r) w w'
/-- No exponent: the text is at its end. -/
theorem scan_exp_none (so : Bool) (r : Nat) (l : List Nat) (eo : Addr) (w : World) (hR : RdAt w r l l.length) (hl : ∀ x ∈ l, x < 256) (hlen : l.length ≤ 2000)
    (hE : w.cell? ⟨0, 0, none⟩ = some (.iface 245 (.pointer (some eo)))) :
    Calls Tryz.prog 93 #[.iface 133 (.pointer (some ⟨r, 0, none⟩)), .bool true, .bool so] w (ExpOut r l 0 10 w) := by
  have hr17 := hR.2.2
  have H0 := Lib.hid (rdr_next eo r l l.length w hR hl (Nat.le_refl _) (by omega) hE)
  have m1 := meth_read (.pointer (some ⟨r, 0, none⟩))
  have q2 := eof_eof eo
  have HE := Lib.hid hE
  clear hR hl hE
  go_enter Tryz.func93, Tryz.ntmps93
  go_wp2_with fail
  refine H0.out.mono ?_
  rintro e w1 ⟨chv, errv, rfl, hcur, hk⟩
  obtain ⟨-, rfl, rfl, hR1⟩ := hcur.resolve_left (fun h => Nat.lt_irrefl _ h.1)
  have hE1 := eof_chg HE.out hk (fun f => by have h : (0 : Nat) = r := f; omega)
  have HR1 := Lib.hid hR1
  have HK := Lib.hid hk
  clear hcur hk hR1
  go_wp2_with fail
  go_ret3
  exact ⟨rfl, HR1.out, HK.out⟩
set_option maxRecDepth 1000000 in
set_option maxHeartbeats 8000000 in
theorem scan_exp (so : Bool) (r : Nat) (l ds : List Nat) (i c0 eb : Nat) (sg : Bool) (eo : Addr) (w : World) (hPI : PiOk) (hR : RdAt w r l i) (hl : ∀ x ∈ l, x < 256) (hlen : l.length ≤ 2000)
    (hE : w.cell? ⟨0, 0, none⟩ = some (.iface 245 (.pointer (some eo)))) (hc0 : l.getD i 0 = c0) (hc : (c0 = 112 ∧ eb = 2) ∨ (c0 = 101 ∧ eb = 10)) (hc1 : l.getD (i + 1) 0 = if sg then 45 else 43) (hds : l.drop (i + 2) = ds) (hd0 : ds ≠ []) (hdd : ∀ x ∈ ds, 48 ≤ x ∧ x ≤ 57) (hd6 : ds.length ≤ 6) (h17 : 17 ≤ w.heap.size) :
    Calls Tryz.prog 93 #[.iface 133 (.pointer (some ⟨r, 0, none⟩)), .bool true, .bool so] w (ExpOut r l (sgI sg (decV ds)) eb w) := by
  have hr17 := hR.2.2
  have hrs := hR.2.1.lt
  have hn0 : 0 < ds.length := List.length_pos_iff.2 hd0
  have hln : l.length = i + 2 + ds.length := by
    have := congrArg List.length hds
    rw [List.length_drop] at this; omega
  have hget : ∀ k, k < ds.length → l.getD (i + 2 + k) 0 = ds.getD k 0 := fun k hk => by
    rw [← hds, List.getD_eq_getElem?_getD, List.getD_eq_getElem?_getD, List.getElem?_drop]
  have H0 := Lib.hid (rdr_next eo r l i w hR hl (by omega) (by omega) hE)
  have H1 : Hid (∀ W i, RdAt W r l i → i ≤ l.length → W.cell? ⟨0, 0, none⟩ = some (.iface 245 (.pointer (some eo))) → Calls Tryz.prog 90 #[.pointer (some ⟨r, 0, none⟩)] W (CurOut eo r l i W)) := Lib.hid fun W i h1 h2 h3 => rdr_next eo r l i W h1 hl h2 (by omega) h3
  have m1 := meth_read (.pointer (some ⟨r, 0, none⟩))
  have q2 := eof_eof eo
  have h0r : r ≠ 0 := by omega
  have HE := Lib.hid hE
  have HPI := Lib.hid (fun W => hPI sg ds W hd0 hdd hd6)
  have HDD := Lib.hid hdd
  have HG := Lib.hid hget
  have HC1 := Lib.hid hc1
  obtain ⟨n, hn⟩ : ∃ n, n = ds.length := ⟨_, rfl⟩
  rw [← hn] at hn0 hd6 hln
  have HN := Lib.hid hn
  have HLN := Lib.hid hln
  obtain ⟨Q0, hQ0⟩ : ∃ Q0, Q0 = ExpOut r l (sgI sg (decV ds)) eb w := ⟨_, rfl⟩
  rw [← hQ0]
  have HQ0 : Hid (∀ e w', ExpOut r l (sgI sg (decV ds)) eb w e w' → Q0 e w') := Lib.hid (by rw [hQ0]; exact fun _ _ h => h)
  have hi1 : i + 1 < l.length := by omega
  have hi2 : i + 2 ≤ l.length := by omega
  have hi0 : i < l.length := by omega
  clear hE hR hl hQ0 hds hd0 hdd hget hc1 hn hln hPI
  go_enter Tryz.func93, Tryz.ntmps93
  go_wp2_with fail
  refine H0.out.mono ?_
  rintro e w1 ⟨chv, errv, rfl, hcur, hk⟩
  obtain ⟨-, rfl, rfl, hR1⟩ := hcur.resolve_right (fun h => by have := h.1; omega)
  rw [hc0]
  have HK1 := Lib.hid hk
  have HR1 := Lib.hid (H1.out w1 (i + 1) hR1 (by omega) (eof_chg HE.out hk (fun f => h0r f.symm)))
  clear hcur hk hR1 hc0
  go_upto_block 0 with fail
  go_cut [7] (fun v wx => v = .int .i64 eb ∧ w1 = wx)
  case first =>
    rcases hc with ⟨rfl, rfl⟩ | ⟨rfl, rfl⟩
    all_goals
      go_wp2_with fail
      go_meet
      exact ⟨rfl, rfl⟩
  case rest =>
  obtain ⟨rfl, rfl⟩ := hcut
  clear hc
  go_wp2_with fail
  refine HR1.out.mono ?_
  rintro e w2 ⟨chv, errv, rfl, hcur, hk⟩
  obtain ⟨-, rfl, rfl, hR2⟩ := hcur.resolve_right (fun h => by have := h.1; omega)
  obtain ⟨c1, hc1d⟩ : ∃ c1, c1 = if sg then 45 else 43 := ⟨_, rfl⟩
  rw [HC1.out, ← hc1d]
  have t45 : ((c1 : Int) == 45) = sg := by rw [hc1d]; cases sg <;> rfl
  have HC1D := Lib.hid hc1d
  clear hc1d
  have HK2 := Lib.hid (HK1.out.then hk (fun _ _ _ f => f))
  have HR2 := Lib.hid hR2
  clear hcur hk hR2 HR1 H0
  have q1 := eof_nil eo
  have hL0 : ∃ pre, pre = (if sg then [45] else ([] : List Nat)) := ⟨_, rfl⟩
  obtain ⟨pre, hpre⟩ := hL0
  have hpl : pre.length ≤ 1 := by rw [hpre]; cases sg <;> simp
  have HPRE := Lib.hid hpre
  rw [← hpre] at HPI
  clear hpre
  go_upto_region 18 with fail
  go_cut [49] (fun v wx => v = .bool true ∧ w2 = wx)
  case first =>
    obtain rfl := HC1D.out
    clear t45
    cases sg
    all_goals
      go_wp2_with fail
      go_meet
      exact ⟨rfl, rfl⟩
  case rest =>
  obtain ⟨rfl, rfl⟩ := hcut
  go_upto_if 51 with fail
  go_cut [10] (fun (zv : Value) (wx : World) => Hid (Ls .u8 256 wx zv pre) ∧ Hid (FpN w zv) ∧ Hid (RdAt wx r l (i + 2)) ∧ Hid (Chg (Blk r) w wx))
  case first =>
    cases sg
    · go_wp2_with fail
      go_meet
      exact ⟨Lib.hid (.inl ⟨rfl, HPRE.out⟩), Lib.hid (fun x o f => f.elim), HR2, HK2⟩
    · have A0 := Lib.hid (App.refl (w := w2) (z := .slice none 0 0) (l := []) (.inl ⟨rfl, rfl⟩))
      have h172 : 17 ≤ w2.heap.size := Nat.le_trans h17 HK2.out.size
      go_wp2_with (at_builtin; refine wpList_app1 (w0 := w2) (z0 := .slice none 0 0) (l := []) (c := 45) rfl (.tmp 52) (.tmp 53) rfl rfl rfl A0.out (by omega) (by simp) h172 ?_; intro z3 w3 ha; have HA := Lib.hid ha; clear ha)
      go_meet
      refine ⟨Lib.hid (by rw [HPRE.out]; exact HA.out.ls), Lib.hid (fun x o f => ?_), Lib.hid (HR2.out.chg HA.out.chg (fun o f => f.elim)), Lib.hid (HK2.out.then HA.out.chg (fun x o _ f => f.elim))⟩
      rcases HA.out.fp x o f with f | f
      · exact f.elim
      · exact Nat.le_trans HK2.out.size f
  case rest =>
  obtain ⟨hLs, hFp, hRd, hKd⟩ := hcut
  generalize wc = w3 at *
  have HR3 := Lib.hid (H1.out w3 (i + 2) hRd.out hi2 (eof_chg HE.out hKd.out (fun f => h0r f.symm)))
  clear HR2 HK2
  go_wp2_with fail
  refine HR3.out.mono ?_
  rintro e w4 ⟨chv4, errv4, rfl, hcur4, hk4⟩
  have HCur4 := Lib.hid hcur4
  have HK4 := Lib.hid (hKd.out.then hk4 (fun _ _ _ f => f))
  have HL4 := Lib.hid (hLs.out.chg km8 hk4 (fun x o f e => by have h1 : x = r := e; have := hFp.out x o f; omega))
  clear hcur4 hk4 HR3
  go_wp2_with fail
  go_loopg [8, 9, 10, 11, 12, 13] n (fun gk ev cv zv pv iv hv wr => ∃ (k : Nat) (p : Int) (hb : Bool), k + gk = n ∧ pv = .int .i32 p ∧ iv = .bool false ∧ hv = .bool hb ∧ Hid (hb = decide (0 < k)) ∧ Hid (p = 46 ∨ p = 48) ∧ Hid (Ls .u8 256 wr zv (pre ++ ds.take k)) ∧ Hid (FpN w zv) ∧ Hid (Cur eo wr r l (i + 2 + k) cv ev) ∧ Hid (Chg (Blk r) w wr))
  case atStart => exact ⟨0, 46, false, by omega, rfl, rfl, rfl, Lib.hid rfl, Lib.hid (.inl rfl), Lib.hid (by simpa using HL4.out), hFp, HCur4, HK4⟩
  case round =>
  obtain ⟨k, p, hb, hkn, rfl, rfl, rfl, hhb, hp, hL, hF, hC, hK⟩ := hrel
  have h17r : 17 ≤ wr.heap.size := Nat.le_trans h17 hK.out.size
  by_cases hlt : k < n
  · obtain ⟨g1, hg1⟩ : ∃ g, gk = g + 1 := ⟨gk - 1, by omega⟩
    obtain ⟨-, rfl, rfl, hR5⟩ := hC.out.resolve_right (fun h => by have := h.1; have := HLN.out; omega)
    obtain ⟨c, hcd⟩ : ∃ c, c = l.getD (i + 2 + k) 0 := ⟨_, rfl⟩
    rw [← hcd]
    have hcg := HG.out k (by rw [← HN.out]; exact hlt)
    rw [← hcd] at hcg
    have hmem : c ∈ ds := by rw [hcg, getD_get (by rw [← HN.out]; exact hlt)]; exact List.getElem_mem _
    have hcb := HDD.out c hmem
    have i1 : (48 : Int) ≤ (c : Int) := by omega
    have i2 : (c : Int) ≤ 57 := by omega
    have hc256 : c < 256 := by omega
    have HR5 := Lib.hid hR5
    have HCG : Hid (ds.take (k + 1) = ds.take k ++ [c]) := Lib.hid (by rw [List.take_succ_eq_append_getElem (by rw [← HN.out]; exact hlt), hcg, getD_get (by rw [← HN.out]; exact hlt)])
    have A0 := Lib.hid (App.refl (w := wr) hL.out)
    have hlen6 : (pre ++ ds.take k).length < 4000000000 := by rw [List.length_append, List.length_take]; omega
    clear hcd hcg hmem hcb hR5
    go_wp2_with (at_builtin; refine wpList_app1 (w0 := wr) (z0 := u10) (l := pre ++ ds.take k) (c := c) rfl (.tmp 68) (.tmp 70) rfl rfl rfl A0.out hc256 hlen6 h17r ?_; intro z6 w6 ha; have HA := Lib.hid ha; have hR6 := HR5.out.chg HA.out.chg (fun o f => by have := hF.out _ _ f; omega); have HR6 := Lib.hid (H1.out w6 (i + 2 + k + 1) hR6 (by have := HLN.out; omega) (eof_chg HE.out (hK.out.then HA.out.chg (fun x o hx f => by have := hF.out x o f; omega)) (fun f => h0r f.symm))); clear ha hR6)
    refine HR6.out.mono ?_
    rintro e w7 ⟨chv7, errv7, rfl, hcur7, hk7⟩
    have HCur7 := Lib.hid hcur7
    have HK7 := Lib.hid hk7
    clear hcur7 hk7
    go_wp2_with fail
    go_roundg g1
    case measure => omega
    case rel =>
      have hF6 : FpN w z6 := fun x o f => by
        rcases HA.out.fp x o f with f | f
        · exact hF.out x o f
        · exact Nat.le_trans hK.out.size f
      refine ⟨k + 1, 48, true, by omega, rfl, rfl, rfl, Lib.hid (by simp), Lib.hid (.inr rfl), Lib.hid ?_, Lib.hid hF6, Lib.hid (by rw [← Nat.add_assoc]; exact HCur7.out), Lib.hid ((hK.out.then HA.out.chg (fun x o hx f => by have := hF.out x o f; omega)).then HK7.out (fun _ _ _ f => f))⟩
      rw [HCG.out, ← List.append_assoc]
      exact HA.out.ls.chg km8 HK7.out (fun x o f e => by have h1 : x = r := e; have := hF6 x o f; omega)
  · obtain rfl : k = n := by omega
    obtain ⟨-, rfl, rfl, hR5⟩ := hC.out.resolve_left (fun h => by have := h.1; have := HLN.out; omega)
    have hbt : hb = true := by rw [hhb.out]; simp; omega
    subst hbt
    have hpn : ((p : Int) == 95) = false := by have := hp.out; simp; omega
    have hL2 := hL.out
    rw [HN.out, List.take_length] at hL2
    obtain ⟨b, o, c, rfl, hnk, hvv⟩ := hL2.resolve_left (fun h => by have h2 := congrArg List.length h.2; rw [List.length_append, ← HN.out] at h2; simp at h2; omega)
    have hcv := conv_txt b o c (pre ++ ds) wr (.inr ⟨b, o, c, rfl, hnk, hvv⟩)
    have hEr := eof_chg HE.out hK.out (fun f => h0r f.symm)
    have HR5 := Lib.hid hR5
    have HPW := Lib.hid (HPI.out wr)
    obtain ⟨L2, hL2d⟩ : ∃ L2, L2 = (pre ++ ds).length := ⟨_, rfl⟩
    obtain ⟨tx, htx⟩ : ∃ tx, tx = txt (pre ++ ds) := ⟨_, rfl⟩
    rw [← htx] at HPW hcv
    rw [← hL2d] at hcv ⊢
    clear hR5 hnk hvv hL2 hL2d htx
    go_wp2_with fail
    refine HPW.out.mono ?_
    rintro e w7 ⟨rfl, hk7⟩
    have HK7 := Lib.hid hk7
    clear hk7
    go_wp2_with fail
    go_ret3
    exact HQ0.out _ _ ⟨rfl, HR5.out.chg HK7.out (fun _ f => f), hK.out.then HK7.out (fun _ _ _ f => f.elim)⟩
theorem cell_heap {w w' : World} {b o : Nat} (h : w'.heap[b]? = w.heap[b]?) : w'.cell? ⟨b, o, none⟩ = w.cell? ⟨b, o, none⟩ := cell_of_block (a := ⟨b, o, none⟩) h
theorem chg_of_heap {w w' : World} (h1 : w'.os = w.os) (h2 : w'.tape = w.tape) (h3 : w'.output = w.output) (h4 : w.heap.size ≤ w'.heap.size) (h : ∀ b, b < w.heap.size → w'.heap[b]? = w.heap[b]?) : Chg No w w' where
  os := h1
  tape := h2
  output := h3
  size := h4
  cell := fun b o hb _ => cell_heap (h b hb)
  frozen := fun a ha => by unfold World.frozen?; rw [h _ ha]
  block := fun b hb _ => h b hb
  shape := fun b hb => by unfold World.shape?; rw [h b hb]
  isW := fun b o hi => hi.congr (cell_heap (h b hi.block))
  isB := fun b o hi => hi.congr (cell_heap (h b hi.block))
  plain := fun b hp => by obtain ⟨c, t, hh⟩ := hp; exact ⟨c, t, (h b (Plain.lt ⟨c, t, hh⟩)).trans hh⟩
theorem chg_bytesWorld (w : World) (e : TypeId) (s : ByteArray) : Chg No w (Lib.bytesWorld w e s) := by
  refine chg_of_heap rfl rfl rfl ?_ fun b hb => ?_
  · simp [Lib.bytesWorld, World.freeze]
  · have h1 : (w.drew.alloc (.cells (Lib.bytesCells w e s) e)).heap[b]? = w.heap[b]? := Below.heap_alloc w.drew _ b hb
    unfold Lib.bytesWorld World.freeze
    simp only [if_neg (show ¬ (1 : Nat) = 0 by decide), Array.getElem?_modify]
    rw [if_neg (Nat.ne_of_gt hb)]
    exact h1
theorem uint_digits : ∀ (ds : List Nat) (acc n : Nat), (∀ x ∈ ds, 48 ≤ x ∧ x ≤ 57) → ds.length + n ≤ 6 → acc < 10 ^ n → Lib.parseUintM 18446744073709551615 acc (ds.map UInt8.ofNat) = .ok (ds.foldl (fun a c => a * 10 + (c - 48)) acc) ∧ ds.foldl (fun a c => a * 10 + (c - 48)) acc < 10 ^ (ds.length + n)
  | [], acc, n, _, _, ha => ⟨rfl, by simpa using ha⟩
  | c :: r, acc, n, hd, h6, ha => by
    have hc := hd c (by simp)
    have hl : r.length + (n + 1) ≤ 6 := by simp at h6; omega
    have hn : (10 : Nat) ^ n ≤ 10 ^ 5 := Nat.pow_le_pow_right (by decide) (by omega)
    have h5 : (10 : Nat) ^ 5 = 100000 := by decide
    have hp : (10 : Nat) ^ (n + 1) = 10 ^ n * 10 := Nat.pow_succ _ _
    have hcn : (UInt8.ofNat c).toNat = c := by simp [UInt8.toNat_ofNat']; omega
    obtain ⟨ih1, ih2⟩ := uint_digits r (acc * 10 + (c - 48)) (n + 1) (fun x hx => hd x (by simp [hx])) hl (by omega)
    refine ⟨?_, ?_⟩
    · rw [List.map_cons]
      unfold Lib.parseUintM
      rw [hcn, if_pos hc, if_neg (by omega), if_neg (by omega)]
      exact ih1
    · have e : (c :: r).length + n = r.length + (n + 1) := by simp; omega
      rw [e]; exact ih2
theorem txt_list (l : List Nat) : (txt l).data.toList = l.map UInt8.ofNat := rfl
theorem uintB_digits (ds : List Nat) (h0 : ds ≠ []) (hd : ∀ x ∈ ds, 48 ≤ x ∧ x ≤ 57) (h6 : ds.length ≤ 6) : Lib.parseUintB 64 (ds.map UInt8.ofNat) = .ok (decV ds) ∧ decV ds < 10 ^ 6 := by
  obtain ⟨h1, h2⟩ := uint_digits ds 0 0 hd h6 (by decide)
  refine ⟨?_, Nat.lt_of_lt_of_le h2 (Nat.pow_le_pow_right (by decide) h6)⟩
  unfold Lib.parseUintB
  rw [if_neg (by simpa using h0)]
  exact h1
theorem pi_ok : PiOk := by
  intro sg ds W h0 hd h6
  obtain ⟨h1, h2⟩ := uintB_digits ds h0 hd h6
  have h10 : (10 : Nat) ^ 6 = 1000000 := by decide
  have hp : Lib.parseIntB 64 (txt ((if sg then [45] else []) ++ ds)).data.toList = .ok (sgI sg (decV ds)) := by
    rw [txt_list]
    cases sg
    · cases ds with
      | nil => exact absurd rfl h0
      | cons c r =>
        have hc := hd c (by simp)
        have hcn : (UInt8.ofNat c).toNat = c := by simp [UInt8.toNat_ofNat']; omega
        rw [List.map_cons] at h1
        simp only [Bool.false_eq_true, if_false, List.nil_append, List.map_cons]
        unfold Lib.parseIntB
        simp only [hcn, show ¬ c = 43 by omega, show ¬ c = 45 by omega, or_self, if_false]
        rw [h1]
        simp only [not_false_eq_true, true_and, false_and, if_false]
        rw [if_neg (by omega)]
        rfl
    · simp only [if_true, List.cons_append, List.nil_append, List.map_cons]
      unfold Lib.parseIntB
      simp only [show (UInt8.ofNat 45).toNat = 45 from rfl, or_true, if_true, h1]
      rw [if_neg (by simp), if_neg (by simp; omega)]
      rfl
  refine (Tryz.strconv_ParseInt_10_at64_ok (txt ((if sg then [45] else []) ++ ds)) ?_ _ hp W).mono ?_
  · have : (txt ((if sg then [45] else []) ++ ds)).size = ((if sg then [45] else []) ++ ds).length := txt_size _
    rw [this]
    cases sg <;> simp <;> omega
  · rintro e w' ⟨h3, h4⟩
    refine ⟨h3, ?_⟩
    rcases h4 with rfl | ⟨t, rfl⟩
    · exact Chg.refl _ _
    · exact chg_bytesWorld _ _ _
set_option maxHeartbeats 1000000 in
theorem fnorm_val (xb xo m xc X : Nat) (w : World) (hx : NtAt w xb xo m xc X) (hm0 : 0 < m) (hm : m ≤ 1000) :
    Calls Tryz.prog 187 #[.slice (some ⟨xb, xo, none⟩) m xc] w fun e w' => e = .returned (.int .i64 (64 * m - blen X : Nat)) ∧ NtAt w' xb xo m xc (upTo X m) ∧ Chg (Rng xb xo m) w w' := by
  obtain ⟨t, ht, ht0, htw, hB, hb1, hb2⟩ := hx.blen hm0
  have hle := hx.1.le
  have hX0 : X ≠ 0 := by
    intro e; rw [e] at hB; simp [Go.Proofs.YtacfhndledcmgaaGreatDoor.blen] at hB; omega
  have hw := hx.1.isW (m - 1) (by omega)
  have cx : w.cell? ⟨xb, xo + (m - 1), none⟩ = some (.int .u64 t) := by rw [ht]; exact hw.cell
  have c1 : (0 : Int) ≤ (m : Int) - 1 := by omega
  have c2 : (m : Int) - 1 < m := by omega
  have c3 : ((m : Int) - 1).toNat = m - 1 := by omega
  obtain ⟨s, hs⟩ : ∃ s, s = 64 - Lib.bitLen t := ⟨_, rfl⟩
  have hsB : s = 64 * m - Go.Proofs.YtacfhndledcmgaaGreatDoor.blen X := by omega
  have HSB := Lib.hid hsB
  have HN := nlz t htw w
  rw [← hs] at HN
  have HN := Lib.hid HN
  have e1 : IntKind.i64.wrap (s : Int) = (s : Int) := IntWalk.i64_in _ (by omega)
  have hs64 : s < 64 := by omega
  have U1 := upTo_lt hX0 (m := m) (by omega)
  have U2 := upTo_ge hX0 (m := m) (by omega)
  have HU : upTo X m = X * 2 ^ s := by unfold upTo; rw [hsB]
  by_cases hs0 : s = 0
  · have HF : Hid (NtAt w xb xo m xc (upTo X m)) := Lib.hid (by rw [HU, hs0]; simpa using hx)
    have t1 : decide (0 < s) = false := by simp [hs0]
    clear hx ht ht0 hs hsB hs0 U1 U2 HU hw hX0 hB hb1 hb2 htw
    go_enter Tryz.func187, Tryz.ntmps187
    go_wp2_with fail
    refine HN.out.mono ?_
    rintro r w1 ⟨rfl, rfl⟩
    go_wp2_with fail
    go_ret
    exact ⟨by rw [← HSB.out]; rfl, HF.out.drewN 0, (Chg.refl _ w).drewN 0⟩
  · have hs1 : 0 < s := by omega
    have t1 : decide (0 < s) = true := by simp; omega
    have hwr := hx.1.wr 0 m (by omega)
    rw [Nat.add_zero] at hwr
    have HL := Lib.hid fun k => lshVU xb xo xc xb xo xc m s (w.drewN k) (by omega) hm0 hs1 hs64 (hwr.drewN k) (fun i hi => hx.1.isW i (by omega)) (.inr (.inl (by omega)))
    have HF : Hid (∀ w' (c : Nat), Val w' xb xo m + c * WB ^ m = X * 2 ^ s → Chg (Rng xb xo m) w w' → NtAt w' xb xo m xc (upTo X m)) := Lib.hid fun w' c hv hc => by
      rw [← HU] at hv
      have hc0 : c = 0 := by
        rcases Nat.eq_zero_or_pos c with h | h
        · exact h
        · have := Nat.mul_le_mul_right (WB ^ m) h
          omega
      rw [hc0, Nat.zero_mul, Nat.add_zero] at hv
      refine ⟨hx.1.chg hc, hv, .inr (Val_topne hm0 (fun i hi => hc.isW _ _ (hx.1.isW i (by omega))) ?_)⟩
      rw [hv]
      refine Nat.le_trans ?_ U2
      rw [WB_two]
      exact Nat.pow_le_pow_right (by decide) (by omega)
    have hV := hx.2.1
    have HV := Lib.hid hV
    clear hx ht ht0 hs hsB hs0 U1 U2 HU hw hX0 hB hb1 hb2 htw hwr hV
    go_enter Tryz.func187, Tryz.ntmps187
    go_wp2_with fail
    refine HN.out.mono ?_
    rintro r w1 ⟨rfl, rfl⟩
    go_wp2_with fail
    refine (HL.out 0).mono ?_
    rintro r w1 ⟨c, rfl, hc1, hc2, hc3⟩
    have H2 := Lib.hid hc2
    have H3 := Lib.hid hc3.ofDrewN
    clear hc2 hc3
    go_wp2_with fail
    go_ret
    refine ⟨by rw [← HSB.out]; rfl, HF.out _ c ?_ H3.out, H3.out⟩
    rw [H2.out, ← HV.out]
    rfl
/-- What scanSign has said. -/
def SgnOut (n : Bool) (r : Nat) (l : List Nat) (j : Nat) (w : World) (e : Ending) (w' : World) : Prop := e = .returned (.tuple #[.bool n, .nilIface]) ∧ RdAt w' r l j ∧ Chg (Blk r) w w'
theorem eof_neq (eo : Addr) (W : World) : (binOp .neq 121 (.iface 245 (.pointer (some eo))) (.iface 245 (.pointer (some eo)))).run Tryz.prog W = .ok (.bool false) W := by
  have h1 : (Tryz.prog.info? 245).map (·.comparable) = some true := by kernel_rfl
  obtain ⟨i, hi, hc⟩ := Option.map_eq_some_iff.1 h1
  have h2 : (Tryz.prog.info? 247).map (·.comparable) = some true := by kernel_rfl
  obtain ⟨j, hj, -⟩ := Option.map_eq_some_iff.1 h2
  simp only [binOp]
  simp [Op.equal, Op.maxDepth, run_equalIn_iface_ptr_same W 9998 eo Tryz.underlying121 Tryz.underlying245 hi hc hj]
/-- No text of an infinity. -/
def NotInf (l : List Nat) : Prop := l.length ≠ 3 ∧ (l.length = 4 → l.getD 0 0 ≠ 43 ∧ l.getD 0 0 ≠ 45)
theorem pow_odd {a b A B : Nat} (h : 2 ^ a * A = 2 ^ b * B) (hA : A % 2 = 1) (hB : B % 2 = 1) : a = b ∧ A = B := by
  have key : ∀ {a b A B : Nat}, 2 ^ a * A = 2 ^ b * B → A % 2 = 1 → a ≤ b → a = b ∧ A = B := by
    intro a b A B h hA hab
    obtain ⟨d, rfl⟩ : ∃ d, b = a + d := ⟨b - a, by omega⟩
    rw [Nat.pow_add, Nat.mul_assoc] at h
    have h2 := Nat.eq_of_mul_eq_mul_left (Nat.two_pow_pos a) h
    cases d with
    | zero => exact ⟨rfl, by simpa using h2⟩
    | succ d =>
      exfalso
      rw [h2, Nat.pow_succ, Nat.mul_assoc, Nat.mul_left_comm, Nat.mul_mod_right] at hA
      omega
  rcases Nat.le_total a b with h1 | h1
  · exact key h hA h1
  · obtain ⟨h2, h3⟩ := key h.symm hB h1
    exact ⟨h2.symm, h3.symm⟩
theorem blen_pow {X k : Nat} (h : X ≠ 0) : blen (2 ^ k * X) = k + blen X := by
  obtain ⟨h1, h2, h3⟩ := blen_spec h
  have e := blen_of (x := 2 ^ k * X) (k := k + blen X - 1) (by
    rw [show k + blen X - 1 = k + (blen X - 1) by omega, Nat.pow_add]
    exact Nat.mul_le_mul_left _ h2) (by
    rw [show k + blen X - 1 + 1 = k + blen X by omega, Nat.pow_add]
    exact Nat.mul_lt_mul_of_pos_left h3 (Nat.two_pow_pos k))
  omega
theorem upTo_odd {X m t O : Nat} (hX : X = 2 ^ t * O) (hO : O % 2 = 1) (hm : blen X ≤ 64 * m) : upTo X m = 2 ^ (64 * m - blen O) * O ∧ blen X = t + blen O := by
  have hO0 : O ≠ 0 := by omega
  have hB : blen X = t + blen O := by rw [hX]; exact blen_pow hO0
  refine ⟨?_, hB⟩
  unfold upTo
  rw [hB, hX, Nat.mul_assoc, Nat.mul_comm O, ← Nat.mul_assoc, ← Nat.pow_add]
  congr 2; omega
theorem float_Prec (b P M : Nat) (a : Int) (f : Nat) (n : Bool) (v : Value) (e : Int) (w : World) (h : Fl w b P M a f n v e) (hP : P < 60000) :
    Calls Tryz.prog 134 #[.pointer (some ⟨b, 0, none⟩)] w fun r w' => r = .returned (.int .u64 P) ∧ w = w' := by
  have c0 := h.c0
  clear h
  go_enter Tryz.func134, Tryz.ntmps134
  go_wp2_with fail
  go_ret
  exact ⟨rfl, rfl⟩
theorem float_Mode (b P M : Nat) (a : Int) (f : Nat) (n : Bool) (v : Value) (e : Int) (w : World) (h : Fl w b P M a f n v e) :
    Calls Tryz.prog 135 #[.pointer (some ⟨b, 0, none⟩)] w fun r w' => r = .returned (.int .u8 M) ∧ w = w' := by
  have c1 := h.c1
  clear h
  go_enter Tryz.func135, Tryz.ntmps135
  go_wp2_with fail
  go_ret
  exact ⟨rfl, rfl⟩
theorem float_Signbit (b P M : Nat) (a : Int) (f : Nat) (n : Bool) (v : Value) (e : Int) (w : World) (h : Fl w b P M a f n v e) :
    Calls Tryz.prog 136 #[.pointer (some ⟨b, 0, none⟩)] w fun r w' => r = .returned (.bool n) ∧ w = w' := by
  have c4 := h.c4
  clear h
  go_enter Tryz.func136, Tryz.ntmps136
  go_wp2_with fail
  go_ret
  exact ⟨rfl, rfl⟩
theorem float_IsInf (b P M : Nat) (a : Int) (n : Bool) (v : Value) (e : Int) (w : World) (h : Fl w b P M a 1 n v e) :
    Calls Tryz.prog 137 #[.pointer (some ⟨b, 0, none⟩)] w fun r w' => r = .returned (.bool false) ∧ w = w' := by
  have c3 := h.c3
  clear h
  go_enter Tryz.func137, Tryz.ntmps137
  go_wp2_with fail
  go_ret
  exact ⟨rfl, rfl⟩
theorem float_Sign (b P M : Nat) (a : Int) (n : Bool) (v : Value) (e : Int) (w : World) (h : Fl w b P M a 1 n v e) :
    Calls Tryz.prog 138 #[.pointer (some ⟨b, 0, none⟩)] w fun r w' => r = .returned (.int .i64 (if n then -1 else 1)) ∧ w = w' := by
  have c3 := h.c3
  have c4 := h.c4
  clear h
  cases n
  · go_enter Tryz.func138, Tryz.ntmps138
    go_wp2_with fail
    go_ret
    exact ⟨rfl, rfl⟩
  · go_enter Tryz.func138, Tryz.ntmps138
    go_wp2_with fail
    go_ret
    exact ⟨rfl, rfl⟩
theorem float_Acc (b P M : Nat) (a : Int) (f : Nat) (n : Bool) (v : Value) (e : Int) (w : World) (h : Fl w b P M a f n v e) :
    Calls Tryz.prog 84 #[.pointer (some ⟨b, 0, none⟩)] w fun r w' => r = .returned (.int .i8 a) ∧ w = w' := by
  have c2 := h.c2
  clear h
  go_enter Tryz.func84, Tryz.ntmps84
  go_wp2_with fail
  go_ret
  exact ⟨rfl, rfl⟩
set_option maxHeartbeats 2000000 in
theorem float_MinPrec (base b P M : Nat) (n : Bool) (X : Nat) (E : Int) (xb xo m xc t O : Nat) (w : World) (h : FlX w base b P M n X E xb xo m xc) (hX : X = 2 ^ t * O) (hO : O % 2 = 1) (hm : m ≤ 1000) (hg : Glob w) :
    Calls Tryz.prog 140 #[.pointer (some ⟨b, 0, none⟩)] w fun r w' => r = .returned (.int .u64 (blen O : Nat)) ∧ Drew w w' := by
  obtain ⟨hU, hB⟩ := upTo_odd hX hO h.hi
  have hi := h.hi
  have hT := nat_tz_pos xb xo m xc _ w.drew (h.nt.chg (Chg.refl No w).drew (fun _ _ f => f)) h.m0 hm (hg.drewN 1)
  have HT : Hid (Calls Tryz.prog 204 #[.slice (some ⟨xb, xo, none⟩) m xc] w.drew fun e w' => e = .returned (.int .u64 (64 * m - blen O : Nat)) ∧ Drew w.drew w') := Lib.hid (hT.mono (by
    rintro e w' ⟨k, j, rfl, hk, -, hd⟩
    rw [hU] at hk
    obtain ⟨h1, -⟩ := pow_odd hk hO (by omega)
    exact ⟨by rw [h1], hd⟩))
  have hm0 := h.m0
  obtain ⟨c0, c1, c2, c3, c4, c5, c6, -, -, -, -, -⟩ := h.fl
  obtain ⟨S, hS⟩ : ∃ S, S = 64 * m - blen O := ⟨_, rfl⟩
  rw [← hS] at HT
  obtain ⟨B, hBB⟩ : ∃ B, B = blen O := ⟨_, rfl⟩
  have e1 : IntKind.u64.wrap ((m : Int) * 64 - (S : Int)) = (B : Int) := by rw [IntKind.wrap_u64]; omega
  have e0 : IntKind.u64.wrap (m : Int) = (m : Int) := by rw [IntKind.wrap_u64]; omega
  have e3 : IntKind.u64.wrap ((m : Int) * 64) = (m : Int) * 64 := by rw [IntKind.wrap_u64]; omega
  rw [← hBB]
  clear h hT hg hU hB hX hO hS hBB hi
  go_enter Tryz.func140, Tryz.ntmps140
  go_upto_region 3 with fail
  go_region_with (go_at_call 204; refine HT.out.mono ?_; rintro e w2 ⟨rfl, hd⟩; obtain ⟨kk, rfl⟩ := hd)
  all_goals
    go_wp2_with fail
    go_ret
    exact ⟨rfl, ⟨_, rfl⟩⟩
theorem make_acc (n : Bool) (w : World) : Calls Tryz.prog 199 #[.bool n] w fun r w' => (∃ a : Int, r = .returned (.int .i8 a)) ∧ w = w' := by
  cases n
  · go_enter Tryz.func199, Tryz.ntmps199
    go_wp2_with fail
    go_ret
    exact ⟨⟨_, rfl⟩, rfl⟩
  · go_enter Tryz.func199, Tryz.ntmps199
    go_wp2_with fail
    go_ret
    exact ⟨⟨_, rfl⟩, rfl⟩
/-- What Int(nil) leaves. -/
def IntOut (n : Bool) (O : Nat) (w : World) (e : Ending) (w' : World) : Prop :=
  ∃ v, e = .returned (.tuple #[.pointer (some ⟨w.heap.size, 0, none⟩), .int .i8 0]) ∧ In w' w.heap.size n v ∧ Nt w' v O ∧ Chg No w w'
set_option maxRecDepth 100000 in
set_option maxHeartbeats 4000000 in
theorem float_Int (base b P M : Nat) (n : Bool) (X : Nat) (E : Int) (xb xo m xc t O : Nat) (w : World) (h : FlX w base b P M n X E xb xo m xc) (hX : X = 2 ^ t * O) (hO : O % 2 = 1) (hE : (t : Int) + E = 0) (hm : m ≤ 1000) (hg : Glob w) (h17 : 17 ≤ w.heap.size) :
    Calls Tryz.prog 141 #[.pointer (some ⟨b, 0, none⟩), .pointer none] w (IntOut n O w) := by
  obtain ⟨hU, hB⟩ := upTo_odd hX hO h.hi
  have hi := h.hi
  have hm0 := h.m0
  have hO0 : O ≠ 0 := by omega
  obtain ⟨p, hp⟩ : ∃ p, p = blen O := ⟨_, rfl⟩
  have hp1 := (blen_spec hO0).1
  have hpm : p ≤ 64 * m := by omega
  have he : (blen X : Int) + E = (p : Int) := by omega
  have ip : (0 : Int) < (p : Int) := by omega
  have hMP : Hid (∀ W, Chg No w W → Calls Tryz.prog 140 #[.pointer (some ⟨b, 0, none⟩)] W fun r w' => r = .returned (.int .u64 p) ∧ Drew W w') := Lib.hid fun W hW => by
    rw [hp]
    exact float_MinPrec base b P M n X E xb xo m xc t O W (h.chg hW (fun _ f => f) (fun _ f => f)) hX hO hm (hg.no hW)
  have HF := Lib.hid h
  have HU := Lib.hid hU
  have HPP := Lib.hid hp
  have HO1 := Lib.hid hO0
  have F := h.fl
  rw [he] at F
  have HF1 := Lib.hid F
  obtain ⟨c0, c1, c2, c3, c4, c5, c6, -, -, -, -, -⟩ := F
  clear h hX hO hE hg hU hB hi hp he hO0 hp1
  have K1 := Lib.hid ((Chg.refl No w).alloc (.cells #[.bool false, .slice none 0 0] 87))
  have I1 := Lib.hid (In.new w h17)
  go_enter Tryz.func141, Tryz.ntmps141
  go_upto_region 3 with fail
  generalize w.alloc (.cells #[.bool false, .slice none 0 0] 87) = w1 at *
  clear c0 c1 c2 c3 c4 c5 c6
  obtain ⟨c0, c1, c2, c3, c4, c5, c6, -, -, -, -, -⟩ := HF1.out.chg K1.out (fun _ f => f)
  obtain ⟨d0, d1, dp, -⟩ := I1.out
  have fd0 := dp.free 0
  obtain ⟨ib, hib⟩ : ∃ ib, ib = w.heap.size := ⟨_, rfl⟩
  rw [← hib] at d0 d1 fd0 I1 ⊢
  have HIB := Lib.hid hib
  have HMA := Lib.hid (make_acc n w1)
  have HM1 := Lib.hid (hMP.out w1 K1.out)
  clear dp hib
  go_wp2_with fail
  refine HMA.out.mono ?_
  rintro r w2 ⟨⟨a, rfl⟩, rfl⟩
  have e1 : IntKind.u64.wrap (m : Int) = (m : Int) := by rw [IntKind.wrap_u64]; omega
  obtain ⟨AB, hAB⟩ : ∃ AB, AB = 64 * m := ⟨_, rfl⟩
  have e2 : IntKind.u64.wrap ((m : Int) * 64) = (AB : Int) := by rw [IntKind.wrap_u64]; omega
  have hABp : p ≤ AB := by omega
  have hABm : AB ≤ 64000 := by omega
  have HAB := Lib.hid hAB
  clear hAB
  have e3 : IntKind.u64.wrap (p : Int) = (p : Int) := by rw [IntKind.wrap_u64]; omega
  go_wp2_with fail
  refine HM1.out.mono ?_
  rintro r w2 ⟨rfl, hd⟩
  obtain ⟨kk, rfl⟩ := hd
  have k2 : Chg No w1 (w1.drewN kk) := (Chg.refl No w1).drewN kk
  have K2 := Lib.hid (K1.out.drewN kk)
  have I2 := Lib.hid (I1.out.chg k2 (fun _ f => f))
  have HF2 := Lib.hid (HF.out.chg K2.out (fun _ f => f) (fun _ f => f))
  generalize w1.drewN kk = w2 at *
  clear c0 c1 c2 c3 c4 c5 c6 d0 d1 fd0 k2 HMA HM1 I1 K1
  have F2 := HF2.out.fl
  obtain ⟨c0, c1, c2, c3, c4, c5, -, -, -, -, -, -⟩ := F2
  obtain ⟨d0, d1, dp, -⟩ := I2.out
  have fd0 := dp.free 0
  go_upto_region 16 with fail
  have ibb : ib ≠ b := by have h1 := HF.out.fl.plain.lt; have := HIB.out; omega
  have hk3 : Chg (Blk ib) w2 (w2.setCell ⟨ib, 0, none⟩ (.bool n)) := (Chg.refl (Blk ib) w2).setO _ d0 (fun n e => by cases e) (fun n e => by cases e) (fun _ => rfl)
  have I3 : In (w2.setCell ⟨ib, 0, none⟩ (.bool n)) ib n (.slice none 0 0) := ⟨World.cell?_setCell_same _ _ _ d0, (cell_setCell_ne _ _ _ _ _ _ (.inr (by decide))).trans d1, dp.setCell _ _, by have := HIB.out; omega⟩
  have HI3 := Lib.hid I3
  have hxib : xb ≠ ib := by have h1 := HF.out.nt.1.plain.lt; have := HIB.out; omega
  have HF3 := Lib.hid (HF2.out.chg hk3 (fun o h => ibb h.symm) (fun i h => hxib h))
  have K3 := Lib.hid (K2.out.then hk3 (fun x o hx h => by have h1 : x = ib := h; have := HIB.out; omega))
  clear c0 c1 c2 c3 c4 c5 d0 d1 dp fd0 hk3 I3
  generalize w2.setCell ⟨ib, 0, none⟩ (.bool n) = w3 at *
  have F3 := HF3.out.fl
  obtain ⟨c0, c1, c2, c3, c4, c5, -, -, -, -, -, -⟩ := F3
  obtain ⟨d0, d1, dp, -⟩ := HI3.out
  have fd1 := dp.free 1
  have hNU := HF3.out.nt
  rw [HU.out] at hNU
  have t1 : decide (AB < p) = false := decide_eq_false (by omega)
  obtain ⟨s, hs⟩ : ∃ s, s = AB - p := ⟨_, rfl⟩
  have es : (AB : Int) - (p : Int) = (s : Int) := by omega
  have es2 : IntKind.u64.wrap ((AB : Int) - (p : Int)) = (s : Int) := by rw [IntKind.wrap_u64]; omega
  have hUs : 2 ^ (64 * m - blen O) * O = 2 ^ s * O := by rw [hs, HPP.out, HAB.out]
  rw [hUs] at hNU
  have hSm : Small (2 ^ s * O) := by
    rw [← hUs, ← HU.out]
    have h1 := upTo_lt HF3.out.X0 HF3.out.hi
    unfold Small
    obtain ⟨T, hT⟩ : ∃ T : Nat, T = 1000 := ⟨_, rfl⟩
    rw [← hT]
    exact Nat.lt_of_lt_of_le h1 (Nat.pow_le_pow_right WB_pos (by omega))
  have hN4 : Nt w3.drew (.slice (some ⟨xb, xo, none⟩) m xc) (2 ^ s * O) := (hNU.chg (Chg.refl No w3).drew (fun _ _ f => f)).nt
  have h173 : 17 ≤ w3.drew.heap.size := Nat.le_trans h17 K3.out.size
  have hK : ∀ {w4 : World} {v : Value} {V : Nat}, Res w3.drew w4 (.slice none 0 0) v V → Chg No w3 w4 := fun hr => ((Chg.refl No w3).drew).then hr.chg (fun _ _ _ f => f)
  have HKK := Lib.hid (fun (w4 : World) (v : Value) (V : Nat) (h : Res w3.drew w4 (.slice none 0 0) v V) => hK h)
  have fin : ∀ (w4 : World) (va : Option Addr) (vn vc : Nat), Res w3.drew w4 (.slice none 0 0) (.slice va vn vc) O → IntOut n O w (.returned (.tuple #[.pointer (some ⟨ib, 0, none⟩), .int .i8 0])) (w4.setCell ⟨ib, 1, none⟩ (.slice va vn vc)) := fun w4 va vn vc hr => by
    have k4 := hK hr
    have I4 := HI3.out.chg k4 (fun _ f => f)
    have hk5 : Chg (Blk ib) w4 (w4.setCell ⟨ib, 1, none⟩ (.slice va vn vc)) := (Chg.refl (Blk ib) w4).setO _ I4.c1 (fun n e => by cases e) (fun n e => by cases e) (fun _ => rfl)
    have hib := HIB.out
    refine ⟨.slice va vn vc, by rw [hib], by rw [← hib]; exact ⟨(cell_setCell_ne _ _ _ _ _ _ (.inr (by decide))).trans I4.c0, World.cell?_setCell_same _ _ _ I4.c1, I4.plain.setCell _ _, I4.own⟩, hr.nt.chg hk5 (fun x o f e => ?_), (K3.out.then k4 (fun _ _ _ f => f)).then hk5 (fun x o hx e => by have h1 : x = ib := e; omega)⟩
    have h1 : x = ib := e
    rcases hr.fp x o f with f | f
    · exact f
    · have h2 : w3.heap.size ≤ x := f
      have h3 := HI3.out.plain.lt
      omega
  have HFin := Lib.hid fin
  clear hK fin hUs hNU
  by_cases hs0 : s = 0
  · have t2 : decide (p < AB) = false := decide_eq_false (by omega)
    rw [hs0, Nat.pow_zero, Nat.one_mul] at hN4 hSm
    have HSt := Lib.hid (nat_set (.slice none 0 0) _ O w3.drew (.inl rfl) hN4 hSm h173)
    clear hN4 hSm hs hs0 es es2
    go_upto_region 15 with fail
    go_region_with (go_at_call 156; refine HSt.out.mono ?_; rintro e w4 ⟨v, rfl, hr⟩; obtain ⟨va, vn, vc, rfl⟩ := hr.nt.sl; have I4 := HI3.out.chg (HKK.out _ _ _ hr) (fun _ f => f); have d1' := I4.c1; have fd1' := I4.plain.free 1; have HR := Lib.hid hr; clear hr I4)
    all_goals
      go_wp2_with fail
      go_ret2
      exact HFin.out _ _ _ _ HR.out
  · have t2 : decide (p < AB) = true := decide_eq_true (by omega)
    have hs5 : s ≤ 64000 := by omega
    have HSt := Lib.hid (nat_rsh (.slice none 0 0) _ (2 ^ s * O) s w3.drew (.inl rfl) hN4 hSm (by omega) (fun h => absurd h hs0) (.inr (fun _ _ _ _ f => f.elim)) h173)
    rw [Nat.mul_div_cancel_left _ (Nat.two_pow_pos s)] at HSt
    clear hN4 hSm hs
    go_upto_region 19 with fail
    clear es t1 t2 e1 e2 e3 hpm hABp hABm hs5 hs0
    go_region_with (go_at_call 148; refine HSt.out.mono ?_; rintro e w4 ⟨v, rfl, hr⟩; obtain ⟨va, vn, vc, rfl⟩ := hr.nt.sl; have I4 := HI3.out.chg (HKK.out _ _ _ hr) (fun _ f => f); have d1' := I4.c1; have fd1' := I4.plain.free 1; have HR := Lib.hid hr; clear hr I4)
    all_goals
      go_wp2_with fail
      go_ret2
      exact HFin.out _ _ _ _ HR.out
theorem int_Bits (b : Nat) (n : Bool) (v : Value) (w : World) (hi : In w b n v) (hv : ∃ a m c, v = .slice a m c) :
    Calls Tryz.prog 174 #[.pointer (some ⟨b, 0, none⟩)] w fun e w' => e = .returned v ∧ w = w' := by
  obtain ⟨a, m, c, rfl⟩ := hv
  have c1 := hi.c1
  clear hi
  go_enter Tryz.func174, Tryz.ntmps174
  go_wp2_with fail
  go_ret
  exact ⟨rfl, rfl⟩
/-- The words of a number that is not 0. -/
theorem nt_list {w : World} {v : Value} {O : Nat} (h : Nt w v O) (hO : O ≠ 0) : ∃ b o c l, v = .slice (some ⟨b, o, none⟩) l.length c ∧ NW w b o l.length c ∧ (∀ j (hj : j < l.length), wd w b (o + j) = l[j]) ∧ CanW l ∧ Vl l = O ∧ l ≠ [] := by
  rcases h with ⟨_, h⟩ | ⟨b, o, n, c, rfl, hn, hv, hz⟩
  · exact absurd h hO
  · have hn0 : 0 < n := by
      rcases Nat.eq_zero_or_pos n with e | e
      · subst e; exact absurd hv.symm hO
      · exact e
    have hle := hn.le
    obtain ⟨l, hl⟩ : ∃ l, l = (List.range n).map fun j => wd w b (o + j) := ⟨_, rfl⟩
    have hlen : l.length = n := by rw [hl]; simp
    have hget : ∀ j (hj : j < l.length), wd w b (o + j) = l[j] := fun j hj => by subst hl; simp
    have hV : Vl l = O := by
      unfold Vl
      rw [← hv, hlen]
      unfold Val
      refine V_congr n fun i hi => ?_
      have h1 : i < l.length := by omega
      rw [List.getD_eq_getElem?_getD, List.getElem?_eq_getElem h1]
      exact (hget i h1).symm
    refine ⟨b, o, c, l, by rw [hlen], by rw [hlen]; exact hn, hget, ⟨fun _ => ?_, fun x hx => ?_⟩, hV, fun e => by rw [e] at hlen; simp at hlen; omega⟩
    · rw [hV, ← hv, hlen]
      have h1 := V_split (fun j => wd w b (o + j)) (n - 1) 1
      rw [show n - 1 + 1 = n by omega] at h1
      unfold Val
      rw [h1]
      have h2 : 0 < wd w b (o + (n - 1)) := Nat.pos_of_ne_zero (hz.resolve_left (by omega))
      have h3 : V (fun j => wd w b (o + (n - 1 + j))) 1 = wd w b (o + (n - 1)) := by simp [V]
      rw [h3]
      have h4 := Nat.le_mul_of_pos_right (WB ^ (n - 1)) h2
      omega
    · obtain ⟨j, hj, rfl⟩ := List.getElem_of_mem hx
      rw [← hget j hj]
      exact (hn.isW j (by omega)).lt
set_option maxHeartbeats 4000000 in
theorem impl_wordsOf (b : Nat) (n : Bool) (v : Value) (O : Nat) (w : World) (hi : In w b n v) (hv : Nt w v O) (hO : O ≠ 0) (hSm : Small O) (h17 : 17 ≤ w.heap.size) :
    Calls Tryz.prog 103 #[.pointer (some ⟨b, 0, none⟩)] w fun e w' => ∃ r, e = .returned r ∧ ∃ l, Ls .u64 WB w' r l ∧ CanW l ∧ Vl l = O ∧ Chg No w w' ∧ (∀ x o, Fp r x o → w.heap.size ≤ x) := by
  have HB := Lib.hid (int_Bits b n v w hi hv.sl)
  obtain ⟨vb, vo, vc, l, rfl, hn, hg, hcan, hV, hne⟩ := nt_list hv hO
  obtain ⟨ci, hi1, hi2, hi3, hi4⟩ := info_of info41
  have hle := hn.le
  have hlb : l.length ≤ 1000 := by
    rcases Nat.lt_or_ge 1000 l.length with h | h
    · exfalso
      have h1 := hcan.1 hne
      rw [hV] at h1
      unfold Small at hSm
      obtain ⟨T, hT⟩ : ∃ T : Nat, T = 1000 := ⟨_, rfl⟩
      rw [← hT] at hSm h
      have h2 : WB ^ T ≤ WB ^ (l.length - 1) := Nat.pow_le_pow_right WB_pos (by omega)
      omega
    · exact h
  have HN := Lib.hid hn
  have HG := Lib.hid hg
  have HCan := Lib.hid (And.intro hcan hV)
  have L0 : 0 < l.length := List.length_pos_iff.2 hne
  obtain ⟨L, hL⟩ : ∃ L, L = l.length := ⟨_, rfl⟩
  rw [← hL] at HB hle hlb L0
  have HL := Lib.hid hL
  clear hi hv hn hg hcan hV hO hSm hne hL
  go_enter Tryz.func103, Tryz.ntmps103
  go_wp2_with fail
  refine HB.out.mono ?_
  rintro e w1 ⟨rfl, rfl⟩
  go_wp2_with fail
  go_loopg [3, 9] L (fun gk zv iv wr => ∃ k : Nat, k + gk = L ∧ iv = .int .i64 k ∧ Hid (Ls .u64 WB wr zv (l.take k)) ∧ Hid (∀ x o, Fp zv x o → w.heap.size ≤ x) ∧ Hid (Chg No w wr))
  case atStart => exact ⟨0, by omega, rfl, Lib.hid (.inl ⟨rfl, rfl⟩), Lib.hid (fun x o f => f.elim), Lib.hid (Chg.refl _ _)⟩
  case round =>
  obtain ⟨k, hk, rfl, hLs, hF, hC⟩ := hrel
  by_cases hlt : k < L
  · obtain ⟨g1, hg1⟩ : ∃ g, gk = g + 1 := ⟨gk - 1, by omega⟩
    have i1 : (k : Int) < (L : Int) := by omega
    have hkl : k < l.length := by rw [← HL.out]; exact hlt
    have cw : wr.cell? ⟨vb, vo + k, none⟩ = some (.int .u64 (l[k] : Nat)) := by
      have h1 := (HN.out.isW k (by have := HN.out.le; omega))
      rw [hC.out.cell _ _ h1.block (fun f => f), h1.cell, HG.out k hkl]
    obtain ⟨x, hx⟩ : ∃ x, x = l[k] := ⟨_, rfl⟩
    rw [← hx] at cw
    have hxw : x < WB := by rw [hx]; exact HCan.out.1.2 _ (List.getElem_mem hkl)
    have HT : Hid (l.take (k + 1) = l.take k ++ [x]) := Lib.hid (by rw [hx]; exact List.take_succ_eq_append_getElem hkl)
    have h17r : 17 ≤ wr.heap.size := Nat.le_trans h17 hC.out.size
    have hbig : (l.take k).length + [x].length ≤ 4294967296 := by rw [List.length_take]; simp; omega
    clear hx
    go_wp2_with (at_builtin; refine wpList_append_num rfl km64 (.tmp 13) (.tmp 15) 22 22 41 rfl ci Tryz.underlying22 hi1 hi2 hi3 (by rw [hi4]; omega) _ (l.take k) rfl (Ls.alloc km64 hLs.out _) _ rfl [x] (Src.one Tryz.underlying22 _ _ _ _) (by simpa using hxw) (by simp) hbig (by simp; omega) ?_; intro r w2 happ; have HA := Lib.hid happ; clear happ)
    go_roundg g1
    case measure => omega
    case rel =>
      refine ⟨k + 1, by omega, by go_num, Lib.hid (by rw [HT.out]; exact HA.out.ls), Lib.hid (fun y o f => ?_), Lib.hid ((hC.out.alloc _).then HA.out.chg (fun y o hy f => ?_))⟩
      · rcases HA.out.fp y o f with f | f
        · exact hF.out y o f
        · have := hC.out.size
          simp at f; omega
      · have := hF.out y o f; omega
  · obtain rfl : k = L := by omega
    have i1 : ¬ (k : Int) < (k : Int) := by omega
    go_wp2_with fail
    go_ret
    have h1 := hLs.out
    rw [HL.out, List.take_length] at h1
    exact ⟨_, rfl, l, h1, HCan.out.1, HCan.out.2, hC.out, hF.out⟩
end Go.Proofs.YtacfhndledcmgaaGreatDoor
