/- Lemmas for the law FnBack: the exponent. Conditions: those in each theorem; none besides. -/
import Derived.Test.YtacfhndledcmgaaGreatDoorJ22
set_option linter.unusedVariables false
set_option linter.unusedSimpArgs false
namespace Go.Proofs.YtacfhndledcmgaaGreatDoor
open Go.RowKit
theorem getD_get {ds : List Nat} {k : Nat} (h : k < ds.length) : ds.getD k 0 = ds[k] := by
  rw [List.getD_eq_getElem?_getD, List.getElem?_eq_getElem h]; rfl
/-- The number of decimal digits. -/
def decV (ds : List Nat) : Nat := ds.foldl (fun a c => a * 10 + (c - 48)) 0
def sgI (sg : Bool) (n : Nat) : Int := if sg then -(n : Int) else n
/-- A slice in new blocks. -/
def FpN (w : World) (z : Value) : Prop := ∀ x o, Fp z x o → w.heap.size ≤ x
/-- What strconv.ParseInt tells of few digits. -/
def PiOk : Prop := ∀ (sg : Bool) (ds : List Nat) (W : World), ds ≠ [] → (∀ x ∈ ds, 48 ≤ x ∧ x ≤ 57) → ds.length ≤ 6 → Calls Tryz.prog 153 #[.string (txt ((if sg then [45] else []) ++ ds)), .int .i64 10, .int .i64 64] W fun e w' => e = .returned (.tuple #[.int .i64 (sgI sg (decV ds)), .nilIface]) ∧ Chg No W w'
/-- What scanExponent says. -/
def ExpOut (r : Nat) (l : List Nat) (v : Int) (eb : Nat) (w : World) (e : Ending) (w' : World) : Prop :=
  e = .returned (.tuple #[.int .i64 v, .int .i64 eb, .nilIface]) ∧ RdAt w' r l l.length ∧ Chg (Blk r) w w'
set_option maxRecDepth 1000000 in
set_option maxHeartbeats 8000000 in
theorem scan_exp (so : Bool) (r : Nat) (l ds : List Nat) (i c0 eb : Nat) (sg : Bool) (eo : Addr) (w : World) (hPI : PiOk) (hR : RdAt w r l i) (hl : ∀ x ∈ l, x < 256) (hlen : l.length ≤ 2000)
    (hE : w.cell? ⟨0, 0, none⟩ = some (.iface 245 (.pointer (some eo)))) (hc0 : l.getD i 0 = c0) (hc : (c0 = 112 ∧ eb = 2) ∨ (c0 = 101 ∧ eb = 10)) (hc1 : l.getD (i + 1) 0 = if sg then 45 else 43) (hds : l.drop (i + 2) = ds) (hd0 : ds ≠ []) (hdd : ∀ x ∈ ds, 48 ≤ x ∧ x ≤ 57) (hd6 : ds.length ≤ 6) (h17 : 17 ≤ w.heap.size) :
    Calls Tryz.prog 93 #[.iface 133 (.pointer (some ⟨r, 0, none⟩)), .bool true, .bool so] w (ExpOut r l (sgI sg (decV ds)) eb w) := by
  have hr17 := hR.2.2
  have hrs := hR.2.1.lt
  have hn0 : 0 < ds.length := List.length_pos_iff.2 hd0
  have hln : l.length = i + 2 + ds.length := by
    have := congrArg List.length hds
    rw [List.length_drop] at this; omega
  have hget : ∀ k, k < ds.length → l.getD (i + 2 + k) 0 = ds.getD k 0 := fun k hk => by
    rw [← hds, List.getD_eq_getElem?_getD, List.getD_eq_getElem?_getD, List.getElem?_drop]
  have H0 := Lib.hid (rdr_next eo r l i w hR hl (by omega) (by omega) hE)
  have H1 : Hid (∀ W i, RdAt W r l i → i ≤ l.length → W.cell? ⟨0, 0, none⟩ = some (.iface 245 (.pointer (some eo))) → Calls Tryz.prog 90 #[.pointer (some ⟨r, 0, none⟩)] W (CurOut eo r l i W)) := Lib.hid fun W i h1 h2 h3 => rdr_next eo r l i W h1 hl h2 (by omega) h3
  have m1 := meth_read (.pointer (some ⟨r, 0, none⟩))
  have q2 := eof_eof eo
  have h0r : r ≠ 0 := by omega
  have HE := Lib.hid hE
  have HPI := Lib.hid (fun W => hPI sg ds W hd0 hdd hd6)
  have HDD := Lib.hid hdd
  have HG := Lib.hid hget
  have HC1 := Lib.hid hc1
  obtain ⟨n, hn⟩ : ∃ n, n = ds.length := ⟨_, rfl⟩
  rw [← hn] at hn0 hd6 hln
  have HN := Lib.hid hn
  have HLN := Lib.hid hln
  obtain ⟨Q0, hQ0⟩ : ∃ Q0, Q0 = ExpOut r l (sgI sg (decV ds)) eb w := ⟨_, rfl⟩
  rw [← hQ0]
  have HQ0 : Hid (∀ e w', ExpOut r l (sgI sg (decV ds)) eb w e w' → Q0 e w') := Lib.hid (by rw [hQ0]; exact fun _ _ h => h)
  have hi1 : i + 1 < l.length := by omega
  have hi2 : i + 2 ≤ l.length := by omega
  have hi0 : i < l.length := by omega
  clear hE hR hl hQ0 hds hd0 hdd hget hc1 hn hln hPI
  go_enter Tryz.func93, Tryz.ntmps93
  go_wp2_with fail
  refine H0.out.mono ?_
  rintro e w1 ⟨chv, errv, rfl, hcur, hk⟩
  obtain ⟨-, rfl, rfl, hR1⟩ := hcur.resolve_right (fun h => by have := h.1; omega)
  rw [hc0]
  have HK1 := Lib.hid hk
  have HR1 := Lib.hid (H1.out w1 (i + 1) hR1 (by omega) (eof_chg HE.out hk (fun f => h0r f.symm)))
  clear hcur hk hR1 hc0
  go_upto_block 0 with fail
  go_cut [7] (fun v wx => v = .int .i64 eb ∧ w1 = wx)
  case first =>
    rcases hc with ⟨rfl, rfl⟩ | ⟨rfl, rfl⟩
    all_goals
      go_wp2_with fail
      go_meet
      exact ⟨rfl, rfl⟩
  case rest =>
  obtain ⟨rfl, rfl⟩ := hcut
  clear hc
  go_wp2_with fail
  refine HR1.out.mono ?_
  rintro e w2 ⟨chv, errv, rfl, hcur, hk⟩
  obtain ⟨-, rfl, rfl, hR2⟩ := hcur.resolve_right (fun h => by have := h.1; omega)
  obtain ⟨c1, hc1d⟩ : ∃ c1, c1 = if sg then 45 else 43 := ⟨_, rfl⟩
  rw [HC1.out, ← hc1d]
  have t45 : ((c1 : Int) == 45) = sg := by rw [hc1d]; cases sg <;> rfl
  have HC1D := Lib.hid hc1d
  clear hc1d
  have HK2 := Lib.hid (HK1.out.then hk (fun _ _ _ f => f))
  have HR2 := Lib.hid hR2
  clear hcur hk hR2 HR1 H0
  have q1 := eof_nil eo
  have hL0 : ∃ pre, pre = (if sg then [45] else ([] : List Nat)) := ⟨_, rfl⟩
  obtain ⟨pre, hpre⟩ := hL0
  have hpl : pre.length ≤ 1 := by rw [hpre]; cases sg <;> simp
  have HPRE := Lib.hid hpre
  rw [← hpre] at HPI
  clear hpre
  go_upto_region 18 with fail
  go_cut [49] (fun v wx => v = .bool true ∧ w2 = wx)
  case first =>
    obtain rfl := HC1D.out
    clear t45
    cases sg
    all_goals
      go_wp2_with fail
      go_meet
      exact ⟨rfl, rfl⟩
  case rest =>
  obtain ⟨rfl, rfl⟩ := hcut
  go_upto_if 51 with fail
  go_cut [10] (fun (zv : Value) (wx : World) => Hid (Ls .u8 256 wx zv pre) ∧ Hid (FpN w zv) ∧ Hid (RdAt wx r l (i + 2)) ∧ Hid (Chg (Blk r) w wx))
  case first =>
    cases sg
    · go_wp2_with fail
      go_meet
      exact ⟨Lib.hid (.inl ⟨rfl, HPRE.out⟩), Lib.hid (fun x o f => f.elim), HR2, HK2⟩
    · have A0 := Lib.hid (App.refl (w := w2) (z := .slice none 0 0) (l := []) (.inl ⟨rfl, rfl⟩))
      have h172 : 17 ≤ w2.heap.size := Nat.le_trans h17 HK2.out.size
      go_wp2_with (at_builtin; refine wpList_app1 (w0 := w2) (z0 := .slice none 0 0) (l := []) (c := 45) rfl (.tmp 52) (.tmp 53) rfl rfl rfl A0.out (by omega) (by simp) h172 ?_; intro z3 w3 ha; have HA := Lib.hid ha; clear ha)
      go_meet
      refine ⟨Lib.hid (by rw [HPRE.out]; exact HA.out.ls), Lib.hid (fun x o f => ?_), Lib.hid (HR2.out.chg HA.out.chg (fun o f => f.elim)), Lib.hid (HK2.out.then HA.out.chg (fun x o _ f => f.elim))⟩
      rcases HA.out.fp x o f with f | f
      · exact f.elim
      · exact Nat.le_trans HK2.out.size f
  case rest =>
  obtain ⟨hLs, hFp, hRd, hKd⟩ := hcut
  generalize wc = w3 at *
  have HR3 := Lib.hid (H1.out w3 (i + 2) hRd.out hi2 (eof_chg HE.out hKd.out (fun f => h0r f.symm)))
  clear HR2 HK2
  go_wp2_with fail
  refine HR3.out.mono ?_
  rintro e w4 ⟨chv4, errv4, rfl, hcur4, hk4⟩
  have HCur4 := Lib.hid hcur4
  have HK4 := Lib.hid (hKd.out.then hk4 (fun _ _ _ f => f))
  have HL4 := Lib.hid (hLs.out.chg km8 hk4 (fun x o f e => by have h1 : x = r := e; have := hFp.out x o f; omega))
  clear hcur4 hk4 HR3
  go_wp2_with fail
  go_loopg [8, 9, 10, 11, 12, 13] n (fun gk ev cv zv pv iv hv wr => ∃ (k : Nat) (p : Int) (hb : Bool), k + gk = n ∧ pv = .int .i32 p ∧ iv = .bool false ∧ hv = .bool hb ∧ Hid (hb = decide (0 < k)) ∧ Hid (p = 46 ∨ p = 48) ∧ Hid (Ls .u8 256 wr zv (pre ++ ds.take k)) ∧ Hid (FpN w zv) ∧ Hid (Cur eo wr r l (i + 2 + k) cv ev) ∧ Hid (Chg (Blk r) w wr))
  case atStart => exact ⟨0, 46, false, by omega, rfl, rfl, rfl, Lib.hid rfl, Lib.hid (.inl rfl), Lib.hid (by simpa using HL4.out), hFp, HCur4, HK4⟩
  case round =>
  obtain ⟨k, p, hb, hkn, rfl, rfl, rfl, hhb, hp, hL, hF, hC, hK⟩ := hrel
  have h17r : 17 ≤ wr.heap.size := Nat.le_trans h17 hK.out.size
  by_cases hlt : k < n
  · obtain ⟨g1, hg1⟩ : ∃ g, gk = g + 1 := ⟨gk - 1, by omega⟩
    obtain ⟨-, rfl, rfl, hR5⟩ := hC.out.resolve_right (fun h => by have := h.1; have := HLN.out; omega)
    obtain ⟨c, hcd⟩ : ∃ c, c = l.getD (i + 2 + k) 0 := ⟨_, rfl⟩
    rw [← hcd]
    have hcg := HG.out k (by rw [← HN.out]; exact hlt)
    rw [← hcd] at hcg
    have hmem : c ∈ ds := by rw [hcg, getD_get (by rw [← HN.out]; exact hlt)]; exact List.getElem_mem _
    have hcb := HDD.out c hmem
    have i1 : (48 : Int) ≤ (c : Int) := by omega
    have i2 : (c : Int) ≤ 57 := by omega
    have hc256 : c < 256 := by omega
    have HR5 := Lib.hid hR5
    have HCG : Hid (ds.take (k + 1) = ds.take k ++ [c]) := Lib.hid (by rw [List.take_succ_eq_append_getElem (by rw [← HN.out]; exact hlt), hcg, getD_get (by rw [← HN.out]; exact hlt)])
    have A0 := Lib.hid (App.refl (w := wr) hL.out)
    have hlen6 : (pre ++ ds.take k).length < 4000000000 := by rw [List.length_append, List.length_take]; omega
    clear hcd hcg hmem hcb hR5
    go_wp2_with (at_builtin; refine wpList_app1 (w0 := wr) (z0 := u10) (l := pre ++ ds.take k) (c := c) rfl (.tmp 68) (.tmp 70) rfl rfl rfl A0.out hc256 hlen6 h17r ?_; intro z6 w6 ha; have HA := Lib.hid ha; have hR6 := HR5.out.chg HA.out.chg (fun o f => by have := hF.out _ _ f; omega); have HR6 := Lib.hid (H1.out w6 (i + 2 + k + 1) hR6 (by have := HLN.out; omega) (eof_chg HE.out (hK.out.then HA.out.chg (fun x o hx f => by have := hF.out x o f; omega)) (fun f => h0r f.symm))); clear ha hR6)
    refine HR6.out.mono ?_
    rintro e w7 ⟨chv7, errv7, rfl, hcur7, hk7⟩
    have HCur7 := Lib.hid hcur7
    have HK7 := Lib.hid hk7
    clear hcur7 hk7
    go_wp2_with fail
    go_roundg g1
    case measure => omega
    case rel =>
      have hF6 : FpN w z6 := fun x o f => by
        rcases HA.out.fp x o f with f | f
        · exact hF.out x o f
        · exact Nat.le_trans hK.out.size f
      refine ⟨k + 1, 48, true, by omega, rfl, rfl, rfl, Lib.hid (by simp), Lib.hid (.inr rfl), Lib.hid ?_, Lib.hid hF6, Lib.hid (by rw [← Nat.add_assoc]; exact HCur7.out), Lib.hid ((hK.out.then HA.out.chg (fun x o hx f => by have := hF.out x o f; omega)).then HK7.out (fun _ _ _ f => f))⟩
      rw [HCG.out, ← List.append_assoc]
      exact HA.out.ls.chg km8 HK7.out (fun x o f e => by have h1 : x = r := e; have := hF6 x o f; omega)
  · obtain rfl : k = n := by omega
    obtain ⟨-, rfl, rfl, hR5⟩ := hC.out.resolve_left (fun h => by have := h.1; have := HLN.out; omega)
    have hbt : hb = true := by rw [hhb.out]; simp; omega
    subst hbt
    have hpn : ((p : Int) == 95) = false := by have := hp.out; simp; omega
    have hL2 := hL.out
    rw [HN.out, List.take_length] at hL2
    obtain ⟨b, o, c, rfl, hnk, hvv⟩ := hL2.resolve_left (fun h => by have h2 := congrArg List.length h.2; rw [List.length_append, ← HN.out] at h2; simp at h2; omega)
    have hcv := conv_txt b o c (pre ++ ds) wr (.inr ⟨b, o, c, rfl, hnk, hvv⟩)
    have hEr := eof_chg HE.out hK.out (fun f => h0r f.symm)
    have HR5 := Lib.hid hR5
    have HPW := Lib.hid (HPI.out wr)
    obtain ⟨L2, hL2d⟩ : ∃ L2, L2 = (pre ++ ds).length := ⟨_, rfl⟩
    obtain ⟨tx, htx⟩ : ∃ tx, tx = txt (pre ++ ds) := ⟨_, rfl⟩
    rw [← htx] at HPW hcv
    rw [← hL2d] at hcv ⊢
    clear hR5 hnk hvv hL2 hL2d htx
    go_wp2_with fail
    refine HPW.out.mono ?_
    rintro e w7 ⟨rfl, hk7⟩
    have HK7 := Lib.hid hk7
    clear hk7
    go_wp2_with fail
    go_ret3
    exact HQ0.out _ _ ⟨rfl, HR5.out.chg HK7.out (fun _ f => f), hK.out.then HK7.out (fun _ _ _ f => f.elim)⟩
end Go.Proofs.YtacfhndledcmgaaGreatDoor
