/- Lemmas for the law FnBackDecimal: nat.scan in base 10. Conditions: those in each theorem; none besides. -/
import Derived.Test.YtacfhndledcmgaaGreatDoorK26
import Derived.LaidEql
set_option linter.unusedVariables false
set_option linter.unusedSimpArgs false
namespace Go.Proofs.YtacfhndledcmgaaGreatDoor
open Go.RowKit
theorem eof_nil (eo : Addr) (W : World) : (binOp .eql 121 .nilIface (.iface 245 (.pointer (some eo)))).run Tryz.prog W = .ok (.bool false) W := run_eql_iface_nil_left W 245 _ Tryz.underlying121
theorem eof_eof (eo : Addr) (W : World) : (binOp .eql 121 (.iface 245 (.pointer (some eo))) (.iface 245 (.pointer (some eo)))).run Tryz.prog W = .ok (.bool true) W := by
  have h1 : (Tryz.prog.info? 245).map (·.comparable) = some true := by kernel_rfl
  obtain ⟨i, hi, hc⟩ := Option.map_eq_some_iff.1 h1
  have h2 : (Tryz.prog.info? 247).map (·.comparable) = some true := by kernel_rfl
  obtain ⟨j, hj, -⟩ := Option.map_eq_some_iff.1 h2
  exact run_eql_iface_ptr_same W eo Tryz.underlying121 Tryz.underlying245 hi hc hj
theorem results_tmp4 {fn : Func} {t u v x : Tmp} (h : fn.results = #[.tmp t, .tmp u, .tmp v, .tmp x]) (tmps : Array Value) (P : Program) (w : World) :
    (results fn tmps).run P w = .ok (.tuple #[tmps.getD t undef, tmps.getD u undef, tmps.getD v undef, tmps.getD x undef]) w := by
  simp [results, h]
theorem StN_dot {b c0 : Nat} {ch : Nat → Nat} {j cnt N : Nat} {dp : Int} (h : StN b c0 ch j = (cnt, N, dp)) (hc : ch j = 46) : StN b c0 ch (j + 1) = (cnt, N, (cnt : Int)) := by
  unfold StN; rw [if_pos hc, h]
theorem StN_dig {b c0 : Nat} {ch : Nat → Nat} {j cnt N : Nat} {dp : Int} (h : StN b c0 ch j = (cnt, N, dp)) (hc : ch j ≠ 46) : StN b c0 ch (j + 1) = (cnt + 1, N * b + dgv (ch j), dp) := by
  unfold StN; rw [if_neg hc, h]
theorem full_alg (Z di d : Nat) : (Z * 10 ^ 18 + di) * 10 + d = (Z * BB + (di * 10 + d)) * 10 ^ 0 + 0 := by
  have : (10 : Nat) ^ 18 * 10 = BB := by decide
  rw [Nat.pow_zero, Nat.mul_one, Nat.add_zero, Nat.add_mul, Nat.mul_assoc, this, Nat.add_assoc]
theorem ten_wb {n T : Nat} (h : n ≤ 2001) (hT : T = 1000) : 10 ^ n ≤ WB ^ T := by
  have h1 : (10 : Nat) ^ n ≤ 16 ^ n := Nat.pow_le_pow_left (by decide) n
  have h2 : (16 : Nat) ^ n = 2 ^ (4 * n) := by rw [show (16 : Nat) = 2 ^ 4 from rfl, ← Nat.pow_mul]
  rw [WB_two]
  exact Nat.le_trans h1 (by rw [h2]; exact Nat.pow_le_pow_right (by decide) (by omega))
/-- The code from a region on. -/
def atReg (n : Nat) : Code → Option Code
  | .seq a b => match a with
    | .region k _ _ => if k == n then some (.seq a b) else atReg n b
    | c => match atReg n c with
      | some d => some d
      | none => atReg n b
  | .loop c => atReg n c
  | .block _ c => atReg n c
  | .scope c => atReg n c
  | .cond _ a b => match atReg n a with
    | some d => some d
    | none => atReg n b
  | _ => none
noncomputable def scanRest : Code := ((Tryz.f89.body.bind (atReg 31)).getD .skip)
/-- What a scan in base b says. -/
def ScanOut (b r : Nat) (l : List Nat) (e1 : Nat) (s : Nat × Nat × Int) (w : World) (e : Ending) (w' : World) : Prop :=
  ∃ z, e = .returned (.tuple #[z, .int .i64 b, .int .i64 (cntOut s), .nilIface]) ∧ Nt w' z s.2.1 ∧ RdAt w' r l e1 ∧ Chg (Blk r) w w' ∧ (∀ x o, Fp z x o → w.heap.size ≤ x)
/-- The state of the scan in base 10 ahead of byte j. -/
structure Sc10 (eo : Addr) (w0 w : World) (r : Nat) (l : List Nat) (s c0 : Nat) (fo : Bool) (j : Nat) (z : Value) (fk : Bool) (cnt : Nat) (err : Value) (pv : Int) (chv : Value) (di i Z : Nat) (dp : Int) : Prop where
  st : StN 10 c0 (fun j => l.getD (s + j) 0) j = (cnt, Z * 10 ^ i + di, dp)
  fk : fk = (fo && decide (dp < 0))
  pv : pv = 46 ∨ pv = 48
  cur : Cur eo w r l (s + j) chv err
  nt : Nt w z Z
  fp : ∀ x o, Fp z x o → w0.heap.size ≤ x
  i19 : i < 19
  di : di < 10 ^ i
  chg : Chg (Blk r) w0 w
set_option maxRecDepth 1000000 in
set_option maxHeartbeats 8000000 in
theorem scan_rest10 {Q0 : Ending → World → Prop} {u4 u5 u6 u7 u12 u17 u18 u19 u20 u21 u22 u23 u24 u25 u26 u27 u28 u29 u30 u31 u32 u33 u34 u35 u36 u37 u38 u39 u40 u41 u42 u43 u44 u45 u46 u47 u48 u49 u50 u51 u52 u53 u54 u55 u56 u57 u58 u59 u60 u61 u62 u63 u64 u65 u66 u67 u68 u69 u70 u71 u72 u73 u74 u75 u76 u77 u78 u79 u80 u81 u82 u83 u84 u85 u86 u87 u88 u89 u90 u91 u92 u93 u94 u95 u96 u97 u98 u99 u100 u101 u102 u103 u104 u105 u106 u107 u108 u109 u110 u111 u112 u113 u114 u115 u116 u117 u118 u119 u120 u121 u122 u123 u124 u125 u126 u127 u128 u129 u130 u131 u132 u133 u134 u135 u136 u137 u138 u139 u140 u141 u142 u143 u144 u145 u146 u147 u148 u149 u150 u151 u152 u153 u154 u155 u156 u157 u158 u159 u160 u161 u162 u163 u164 u165 u166 u167 u168 u169 u170 u171 u172 u173 u174 u175 u176 u177 u178 u179 u180 u181 u182 u183 u184 u185 u186 u187 u188 u189 u190 u191 u192 u193 u194 u195 u196 u197 u198 u199 u200 u201 u202 u203 u204 u205 u206 u207 u208 u209 u210 u211 u212 u213 u214 u215 u216 u217 u218 u219 u220 u221 u222 u223 u224 u225 u226 u227 u228 u229 u230 u231 u232 u233 u234 u235 u236 u237 u238 u239 u240 u241 u242 u243 u244 u245 u246 u247 u248 u249 u250 u251 u252 u253 u254 u255 u256 u257 u258 u259 u260 u261 u262 u263 u264 u265 u266 u267 u268 u269 u270 u271 u272 u273 err chv : Value} {base : Nat} {fo : Bool} {pv : Int} {w1 : World} (r : Nat) (l : List Nat) (s M c0 : Nat) (eo : Addr) (w : World) (hl : ∀ x ∈ l, x < 256) (hlen : l.length ≤ 2000)
    (hE : w.cell? ⟨0, 0, none⟩ = some (.iface 245 (.pointer (some eo)))) (hM : s + M ≤ l.length) (hg : Mnt 10 c0 fo (fun j => l.getD (s + j) 0) M)
    (hT : s + M = l.length ∨ (97 ≤ l.getD (s + M) 0 ∧ l.getD (s + M) 0 ≤ 122)) (hc : 0 < (StN 10 c0 (fun j => l.getD (s + j) 0) M).1) (h17 : 17 ≤ w.heap.size) (hr17 : 17 ≤ r) (hrs : r < w.heap.size)
    (hpv : pv = 46 ∨ pv = 48) (hcur : Cur eo w1 r l s chv err) (hk : Chg (Blk r) w w1) (hc0 : c0 ≤ 1) (hQ0 : ∀ e w', ScanOut 10 r l (s + M) (StN 10 c0 (fun j => l.getD (s + j) 0) M) w e w' → Q0 e w') :
    Code.wp Tryz.prog scanRest (bodyPost Tryz.prog Tryz.f89 Q0) ⟨#[.slice none 0 0, .iface 133 (.pointer (some ⟨r, 0, none⟩)), .int .i64 base, .bool fo, u4, u5, u6, u7, .slice none 0 0, .int .i64 10, .int .i64 c0, err, u12, .int .i32 pv, .bool false, chv, .int .i64 0, u17, u18, u19, u20, u21, u22, u23, u24, u25, u26, u27, u28, u29, u30, u31, u32, u33, u34, u35, u36, u37, u38, u39, u40, u41, u42, u43, u44, u45, u46, u47, u48, u49, u50, u51, u52, u53, u54, u55, u56, u57, u58, u59, u60, u61, u62, u63, u64, u65, u66, u67, u68, u69, u70, u71, u72, u73, u74, u75, u76, u77, u78, u79, u80, u81, u82, u83, u84, u85, u86, u87, u88, u89, u90, u91, u92, u93, u94, u95, u96, u97, u98, u99, u100, u101, u102, u103, u104, u105, u106, u107, u108, u109, u110, u111, u112, u113, u114, u115, u116, u117, u118, u119, u120, u121, u122, u123, u124, u125, u126, u127, u128, u129, u130, u131, u132, u133, u134, u135, u136, u137, u138, u139, u140, u141, u142, u143, u144, u145, u146, u147, u148, u149, u150, u151, u152, u153, u154, u155, u156, u157, u158, u159, u160, u161, u162, u163, u164, u165, u166, u167, u168, u169, u170, u171, u172, u173, u174, u175, u176, u177, u178, u179, u180, u181, u182, u183, u184, u185, u186, u187, u188, u189, u190, u191, u192, u193, u194, u195, u196, u197, u198, u199, u200, u201, u202, u203, u204, u205, u206, u207, u208, u209, u210, u211, u212, u213, u214, u215, u216, u217, u218, u219, u220, u221, u222, u223, u224, u225, u226, u227, u228, u229, u230, u231, u232, u233, u234, u235, u236, u237, u238, u239, u240, u241, u242, u243, u244, u245, u246, u247, u248, u249, u250, u251, u252, u253, u254, u255, u256, u257, u258, u259, u260, u261, u262, u263, u264, u265, u266, u267, u268, u269, u270, u271, u272, u273], []⟩ w1 := by
  conv => arg 2; whnf
  have H1 : Hid (∀ W i, RdAt W r l i → i ≤ l.length → W.cell? ⟨0, 0, none⟩ = some (.iface 245 (.pointer (some eo))) → Calls Tryz.prog 90 #[.pointer (some ⟨r, 0, none⟩)] W (CurOut eo r l i W)) := Lib.hid fun W i h1 h2 h3 => rdr_next eo r l i W h1 hl h2 (by omega) h3
  have H2 : Hid (∀ W i, RdAt W r l (i + 1) → i < l.length → _) := Lib.hid fun W i hW hi => rdr_unread r l i W hW (by omega)
  have m1 := meth_read (.pointer (some ⟨r, 0, none⟩))
  have m2 := meth_unread (.pointer (some ⟨r, 0, none⟩))
  have HQ0 := Lib.hid hQ0
  have HE := Lib.hid hE
  have HG := Lib.hid hg
  have HT := Lib.hid hT
  have HC := Lib.hid hc
  have HK := Lib.hid hk
  have HCur := Lib.hid hcur
  have h0r : r ≠ 0 := by omega
  clear hE hg hT hc hl hk hcur hQ0
  have HP := Lib.hid (maxPow10 w1)
  have HM := Lib.hid fun (z : Value) (Z : Nat) (y d : Nat) (W : World) (h1 : Ow W z) (h2 : Nt W z Z) (h3 : Small Z) (h4 : y < WB) (h5 : d < WB) (h6 : AlB z z) (h7 : 17 ≤ W.heap.size) => nat_mulAddWW z z Z y d W h1 h2 h3 h4 h5 h6 h7
  go_wp2_with fail
  refine HP.out.mono ?_
  rintro e w2 ⟨rfl, rfl⟩
  go_wp2_with fail
  go_loopg [0, 3, 10, 11, 13, 14, 15, 20, 21, 22] M (fun gk zv fv cv ev pvv isv chvv dv iv dpv wr => ∃ (j cnt di i Z : Nat) (fk : Bool) (pv : Int) (dp : Int), j + gk = M ∧ fv = .bool fk ∧ cv = .int .i64 cnt ∧ pvv = .int .i32 pv ∧ isv = .bool false ∧ dv = .int .u64 di ∧ iv = .int .i64 i ∧ dpv = .int .i64 dp ∧ Hid (Sc10 eo w wr r l s c0 fo j zv fk cnt ev pv chvv di i Z dp))
  case atStart =>
    refine ⟨0, c0, 0, 0, 0, fo, pv, -1, by omega, rfl, rfl, rfl, rfl, rfl, rfl, rfl, Lib.hid ⟨rfl, by simp, hpv, by rw [Nat.add_zero]; exact HCur.out, .inl ⟨rfl, rfl⟩, fun x o f => f.elim, by decide, by decide, HK.out⟩⟩
  case round =>
  obtain ⟨j, cnt, di, i, Z, fk, pv2, dp, hj, rfl, rfl, rfl, rfl, rfl, rfl, rfl, hS⟩ := hrel
  have hst := hS.out.st
  have hB := StN_cnt 10 c0 (fun j => l.getD (s + j) 0) j
  rw [hst] at hB
  have hLt := StN_lt HG.out (by decide) j (by omega)
  rw [hst] at hLt
  simp only at hB hLt
  have hcb : cnt ≤ 2001 := by omega
  have hi19 := hS.out.i19
  have hdi := hS.out.di
  have hpv2 := hS.out.pv
  have h17r : 17 ≤ wr.heap.size := Nat.le_trans h17 hS.out.chg.size
  have hEr : wr.cell? ⟨0, 0, none⟩ = some (.iface 245 (.pointer (some eo))) := eof_chg HE.out hS.out.chg (fun f => h0r f.symm)
  have hSm : Small Z := by
    unfold Small
    have h1 : Z ≤ Z * 10 ^ i := Nat.le_mul_of_pos_right _ (Nat.pow_pos (by decide))
    obtain ⟨T, hT⟩ : ∃ T : Nat, T = 1000 := ⟨_, rfl⟩
    rw [← hT]
    have h2 := ten_wb hcb hT
    omega
  have HEr := Lib.hid hEr
  have HSm := Lib.hid hSm
  have HLt := Lib.hid hLt
  have HB := Lib.hid hB
  clear hEr hSm hLt hB hst
  by_cases hjM : j < M
  · obtain ⟨g1, hg1⟩ : ∃ g, gk = g + 1 := ⟨gk - 1, by omega⟩
    obtain ⟨hlt, rfl, rfl, hR⟩ := hS.out.cur.resolve_right (fun h => by have := h.1; omega)
    obtain ⟨c, hcd⟩ : ∃ c, c = l.getD (s + j) 0 := ⟨_, rfl⟩
    rw [← hcd]
    have HR := Lib.hid (H1.out wr (s + j + 1) hR (by omega) HEr.out)
    have hgj := HG.out j hjM
    simp only [← hcd] at hgj
    have HCD := Lib.hid hcd
    have HRd := Lib.hid hR
    clear hR hcd
    rcases hgj with ⟨rfl, hfo, hdp⟩ | ⟨hn46, hdg⟩
    · have hfk : fk = true := by
        have h1 := hS.out.fk
        rw [hS.out.st] at hdp
        rw [h1, hfo]
        simp only at hdp
        rw [hdp]; rfl
      subst hfk
      have tp : ((pv2 : Int) == 95) = false := by simp; omega
      go_wp2_with fail
      refine HR.out.mono ?_
      rintro e w2 ⟨chv2, errv2, rfl, hcur2, hk2⟩
      have HCur2 := Lib.hid hcur2
      have HK2 := Lib.hid hk2
      clear hcur2 hk2
      go_wp2_with fail
      go_roundg g1
      case measure => omega
      case rel =>
        refine ⟨j + 1, cnt, di, i, Z, false, 46, (cnt : Int), by omega, rfl, rfl, rfl, rfl, rfl, rfl, rfl, Lib.hid ⟨StN_dot hS.out.st HCD.out.symm, ?_, .inl rfl, by rw [← Nat.add_assoc]; exact HCur2.out, hS.out.nt.chg HK2.out (fun x o f e => ?_), hS.out.fp, hS.out.i19, hS.out.di, hS.out.chg.then HK2.out (fun _ _ _ f => f)⟩⟩
        · rw [hfo]; simp
        · have h1 : x = r := e
          have := hS.out.fp x o f; omega
    · obtain ⟨d, hd⟩ : ∃ d, d = dgv c := ⟨_, rfl⟩
      obtain ⟨hc1, hc2, hd10, hdc⟩ : 48 ≤ c ∧ c ≤ 57 ∧ d < 10 ∧ d = c - 48 := by
        obtain ⟨h1, h2⟩ := hdg
        unfold dgv at h2 hd
        split at h2
        · next h3 => rw [if_pos h3] at hd; omega
        · omega
      have t46 : ((c : Int) == 46) = false := by simp; omega
      have t95 : ((c : Int) == 95) = false := by simp; omega
      have e1 : IntKind.u8.wrap ((c : Int) - 48) = (d : Int) := by rw [IntKind.wrap_u8]; omega
      obtain ⟨P1, hP1⟩ : ∃ P1, P1 = di * 10 := ⟨_, rfl⟩
      obtain ⟨D2, hD2⟩ : ∃ D2, D2 = P1 + d := ⟨_, rfl⟩
      have hpw : (10 : Nat) ^ i ≤ 10 ^ 18 := Nat.pow_le_pow_right (by decide) (by omega)
      have hp18 : (10 : Nat) ^ 18 = 1000000000000000000 := by decide
      have e3 : IntKind.u64.wrap ((di : Int) * 10) = (P1 : Int) := by rw [IntKind.wrap_u64]; omega
      have e4 : IntKind.u64.wrap ((P1 : Int) + (d : Int)) = (D2 : Int) := by rw [IntKind.wrap_u64]; omega
      have hD2b : D2 < 10 ^ (i + 1) := by rw [Nat.pow_succ]; omega
      have HD2 := Lib.hid hD2b
      have HDD := Lib.hid (show D2 = di * 10 + dgv c by omega)
      have i1 : (48 : Int) ≤ (c : Int) := by omega
      have i2 : (c : Int) ≤ 57 := by omega
      have i3 : ¬ (10 : Int) ≤ (d : Int) := by omega
      have HN46 := Lib.hid hn46
      clear hpw hp18 hD2b hP1 hD2 hd hdg hn46 hdi hdc
      by_cases hi : i = 18
      · subst hi
        have hZ := hS.out.nt
        have HQ := Lib.hid (HM.out u0 Z BB D2 wr hZ.ow hZ HSm.out BB_lt (Nat.lt_of_lt_of_le HD2.out (by decide)) (AlB.refl hZ.ow) h17r)
        clear hZ
        go_wp2_with fail
        refine HQ.out.mono ?_
        rintro e w3 ⟨z3, rfl, hz3⟩
        have HZ3 := Lib.hid hz3
        have hR3 := HRd.out.chg hz3.chg (fun o f => by have := hS.out.fp _ _ f; omega)
        have HR3 := Lib.hid (H1.out w3 (s + j + 1) hR3 (by omega) (eof_chg HEr.out hz3.chg (fun f => by have := hS.out.fp _ _ f; omega)))
        clear hz3 hR3
        go_wp2_with fail
        refine HR3.out.mono ?_
        rintro e w2 ⟨chv2, errv2, rfl, hcur2, hk2⟩
        have HCur2 := Lib.hid hcur2
        have HK2 := Lib.hid hk2
        clear hcur2 hk2
        go_wp2_with fail
        go_roundg g1
        case measure => omega
        case rel =>
          have hfp : ∀ x o, Fp z3 x o → w.heap.size ≤ x := fun x o f => by
            rcases HZ3.out.fp x o f with f | f
            · exact hS.out.fp x o f
            · have := hS.out.chg.size; omega
          refine ⟨j + 1, cnt + 1, 0, 0, Z * BB + D2, fk, 48, dp, by omega, rfl, by go_num, rfl, rfl, rfl, rfl, rfl, Lib.hid ⟨?_, hS.out.fk, .inr rfl, by rw [← Nat.add_assoc]; exact HCur2.out, HZ3.out.nt.chg HK2.out (fun x o f e => ?_), hfp, by decide, by decide, (hS.out.chg.then HZ3.out.chg (fun x o hx f => by have := hS.out.fp x o f; omega)).then HK2.out (fun _ _ _ f => f)⟩⟩
          · rw [StN_dig hS.out.st (by rw [← HCD.out]; exact HN46.out), ← HCD.out, HDD.out, full_alg]
          · have h1 : x = r := e
            have := hfp x o f; omega
      · have ti : ((i : Int) + 1 == 19) = false := by simp; omega
        go_wp2_with fail
        refine HR.out.mono ?_
        rintro e w2 ⟨chv2, errv2, rfl, hcur2, hk2⟩
        have HCur2 := Lib.hid hcur2
        have HK2 := Lib.hid hk2
        clear hcur2 hk2
        go_wp2_with fail
        go_roundg g1
        case measure => omega
        case rel =>
          refine ⟨j + 1, cnt + 1, D2, i + 1, Z, fk, 48, dp, by omega, rfl, by go_num, rfl, rfl, rfl, by go_num, rfl, Lib.hid ⟨?_, hS.out.fk, .inr rfl, by rw [← Nat.add_assoc]; exact HCur2.out, hS.out.nt.chg HK2.out (fun x o f e => ?_), hS.out.fp, by omega, HD2.out, hS.out.chg.then HK2.out (fun _ _ _ f => f)⟩⟩
          · rw [StN_dig hS.out.st (by rw [← HCD.out]; exact HN46.out), ← HCD.out, HDD.out]
            congr 2
            rw [Nat.pow_succ]; simp only [Nat.add_mul, Nat.mul_assoc, Nat.add_assoc]
          · have h1 : x = r := e
            have := hS.out.fp x o f; omega
  · obtain rfl : j = M := by omega
    rcases hS.out.cur with ⟨hlt, rfl, rfl, hR⟩ | ⟨he, rfl, rfl, hRe⟩
    · obtain ⟨c, hcd⟩ : ∃ c, c = l.getD (s + j) 0 := ⟨_, rfl⟩
      have hct := HT.out.resolve_left (by omega)
      rw [← hcd] at hct ⊢
      have HU := Lib.hid (H2.out wr (s + j) hR hlt)
      have t46 : ((c : Int) == 46) = false := by simp; omega
      have t95 : ((c : Int) == 95) = false := by simp; omega
      obtain ⟨d, hd⟩ : ∃ d, d = c - 97 := ⟨_, rfl⟩
      have e1 : IntKind.u8.wrap ((c : Int) - 97) = (d : Int) := by rw [IntKind.wrap_u8]; omega
      have i0 : (48 : Int) ≤ (c : Int) := by omega
      have i1 : ¬ (c : Int) ≤ 57 := by omega
      have i2 : (97 : Int) ≤ (c : Int) := by omega
      have i3 : (c : Int) ≤ 122 := by omega
      have hd26 : d < 26 := by omega
      have i4 : (10 : Int) ≤ (d : Int) + 10 := by omega
      clear hR hcd hd
      go_wp2_with fail
      refine HU.out.mono ?_
      rintro e w2 ⟨rfl, hR2, hk2⟩
      have HR2 := Lib.hid hR2
      have HK2 := Lib.hid hk2
      clear hR2 hk2
      have tpv : ((pv2 : Int) == 95) = false := by simp; omega
      have tc0 : ((cnt : Int) == 0) = false := by
        have h1 := HC.out
        rw [hS.out.st] at h1
        simp only at h1
        simp; omega
      have HStt := Lib.hid hS.out.st
      have hdp := HB.out
      have HKW := Lib.hid (hS.out.chg.then HK2.out (fun _ _ _ f => f))
      have HRW : Hid (RdAt w2 r l (s + j)) := Lib.hid (HR2.out)
      have q1 := eof_nil eo
      have q2 := eof_eof eo
      have hEW : w2.cell? ⟨0, 0, none⟩ = some (.iface 245 (.pointer (some eo))) := eof_chg HE.out HKW.out (fun f => h0r f.symm)
      have HNW : Hid (Nt w2 u0 Z) := Lib.hid (hS.out.nt.chg HK2.out (fun x o f e => by have h1 : x = r := e; have := hS.out.fp x o f; omega))
      by_cases hi0 : i = 0
      · subst hi0
        obtain rfl : di = 0 := by simp at hdi; omega
        by_cases hd : 0 ≤ dp
        · have td : decide (0 ≤ dp) = true := decide_eq_true hd
          have HCO : Hid (cntOut (StN 10 c0 (fun j => l.getD (s + j) 0) j) = dp - cnt) := Lib.hid (by rw [HStt.out]; exact if_pos hd)
          go_wp2_with fail
          (try simp only [Exit.inBlock, Exit.then]); refine bodyPost_ret (results_tmp4 rfl _ _ _) rfl ?_
          refine HQ0.out _ _ ⟨u0, by rw [HCO.out]; rfl, by rw [HStt.out]; simpa using HNW.out, HRW.out, HKW.out, hS.out.fp⟩
        · have td : decide (0 ≤ dp) = false := decide_eq_false hd
          have HCO : Hid (cntOut (StN 10 c0 (fun j => l.getD (s + j) 0) j) = cnt) := Lib.hid (by rw [HStt.out]; exact if_neg hd)
          go_wp2_with fail
          (try simp only [Exit.inBlock, Exit.then]); refine bodyPost_ret (results_tmp4 rfl _ _ _) rfl ?_
          refine HQ0.out _ _ ⟨u0, by rw [HCO.out]; rfl, by rw [HStt.out]; simpa using HNW.out, HRW.out, HKW.out, hS.out.fp⟩
      · have ti0 : decide ((0 : Int) < (i : Int)) = true := decide_eq_true (by omega)
        obtain ⟨P0, hP0⟩ : ∃ P0, P0 = 10 ^ i % WB := ⟨_, rfl⟩
        have hp1 : P0 = 10 ^ i := by
          rw [hP0]
          have h1 : (10 : Nat) ^ i ≤ 10 ^ 18 := Nat.pow_le_pow_right (by decide) (by omega)
          exact Nat.mod_eq_of_lt (Nat.lt_of_le_of_lt h1 (by decide))
        have hpw := pow_ok 10 i w2 (by decide) (by omega)
        rw [← hP0] at hpw
        have HPW := Lib.hid hpw
        have HQ := Lib.hid (HM.out u0 Z P0 di w2 HNW.out.ow HNW.out HSm.out (by rw [hP0]; exact Nat.mod_lt _ WB_pos) (by rw [← hp1] at hdi; have : P0 < WB := (by rw [hP0]; exact Nat.mod_lt _ WB_pos); omega) (AlB.refl HNW.out.ow) (Nat.le_trans h17 HKW.out.size))
        have HP1 := Lib.hid hp1
        clear hpw hP0 hp1
        by_cases hd : 0 ≤ dp
        · have td : decide (0 ≤ dp) = true := decide_eq_true hd
          have HCO : Hid (cntOut (StN 10 c0 (fun j => l.getD (s + j) 0) j) = dp - cnt) := Lib.hid (by rw [HStt.out]; exact if_pos hd)
          go_wp2_with fail
          refine HPW.out.mono ?_
          rintro e w5 ⟨rfl, rfl⟩
          go_wp2_with fail
          refine HQ.out.mono ?_
          rintro e w6 ⟨z6, rfl, hz6⟩
          have HZ6 := Lib.hid hz6
          clear hz6
          go_wp2_with fail
          (try simp only [Exit.inBlock, Exit.then]); refine bodyPost_ret (results_tmp4 rfl _ _ _) rfl ?_
          refine HQ0.out _ _ ⟨z6, by rw [HCO.out]; rfl, by rw [HStt.out]; rw [← HP1.out]; exact HZ6.out.nt, HRW.out.chg HZ6.out.chg (fun o f => by have := hS.out.fp _ _ f; omega), HKW.out.then HZ6.out.chg (fun x o hx f => by have := hS.out.fp x o f; omega), fun x o f => ?_⟩
          rcases HZ6.out.fp x o f with f | f
          · exact hS.out.fp x o f
          · have := HKW.out.size; omega
        · have td : decide (0 ≤ dp) = false := decide_eq_false hd
          have HCO : Hid (cntOut (StN 10 c0 (fun j => l.getD (s + j) 0) j) = cnt) := Lib.hid (by rw [HStt.out]; exact if_neg hd)
          go_wp2_with fail
          refine HPW.out.mono ?_
          rintro e w5 ⟨rfl, rfl⟩
          go_wp2_with fail
          refine HQ.out.mono ?_
          rintro e w6 ⟨z6, rfl, hz6⟩
          have HZ6 := Lib.hid hz6
          clear hz6
          go_wp2_with fail
          (try simp only [Exit.inBlock, Exit.then]); refine bodyPost_ret (results_tmp4 rfl _ _ _) rfl ?_
          refine HQ0.out _ _ ⟨z6, by rw [HCO.out]; rfl, by rw [HStt.out]; rw [← HP1.out]; exact HZ6.out.nt, HRW.out.chg HZ6.out.chg (fun o f => by have := hS.out.fp _ _ f; omega), HKW.out.then HZ6.out.chg (fun x o hx f => by have := hS.out.fp x o f; omega), fun x o f => ?_⟩
          rcases HZ6.out.fp x o f with f | f
          · exact hS.out.fp x o f
          · have := HKW.out.size; omega
    · clear HCur
      have HHe := Lib.hid he
      have hRe2 : RdAt wr r l (s + j) := by rw [he]; exact hRe
      clear he
      have tpv : ((pv2 : Int) == 95) = false := by simp; omega
      have tc0 : ((cnt : Int) == 0) = false := by
        have h1 := HC.out
        rw [hS.out.st] at h1
        simp only at h1
        simp; omega
      have HStt := Lib.hid hS.out.st
      have hdp := HB.out
      have HKW := Lib.hid (hS.out.chg)
      have HRW : Hid (RdAt wr r l (s + j)) := Lib.hid (hRe2)
      have q1 := eof_nil eo
      have q2 := eof_eof eo
      have hEW : wr.cell? ⟨0, 0, none⟩ = some (.iface 245 (.pointer (some eo))) := eof_chg HE.out HKW.out (fun f => h0r f.symm)
      have HNW : Hid (Nt wr u0 Z) := Lib.hid (hS.out.nt)
      by_cases hi0 : i = 0
      · subst hi0
        obtain rfl : di = 0 := by simp at hdi; omega
        by_cases hd : 0 ≤ dp
        · have td : decide (0 ≤ dp) = true := decide_eq_true hd
          have HCO : Hid (cntOut (StN 10 c0 (fun j => l.getD (s + j) 0) j) = dp - cnt) := Lib.hid (by rw [HStt.out]; exact if_pos hd)
          go_wp2_with fail
          (try simp only [Exit.inBlock, Exit.then]); refine bodyPost_ret (results_tmp4 rfl _ _ _) rfl ?_
          refine HQ0.out _ _ ⟨u0, by rw [HCO.out]; rfl, by rw [HStt.out]; simpa using HNW.out, HRW.out, HKW.out, hS.out.fp⟩
        · have td : decide (0 ≤ dp) = false := decide_eq_false hd
          have HCO : Hid (cntOut (StN 10 c0 (fun j => l.getD (s + j) 0) j) = cnt) := Lib.hid (by rw [HStt.out]; exact if_neg hd)
          go_wp2_with fail
          (try simp only [Exit.inBlock, Exit.then]); refine bodyPost_ret (results_tmp4 rfl _ _ _) rfl ?_
          refine HQ0.out _ _ ⟨u0, by rw [HCO.out]; rfl, by rw [HStt.out]; simpa using HNW.out, HRW.out, HKW.out, hS.out.fp⟩
      · have ti0 : decide ((0 : Int) < (i : Int)) = true := decide_eq_true (by omega)
        obtain ⟨P0, hP0⟩ : ∃ P0, P0 = 10 ^ i % WB := ⟨_, rfl⟩
        have hp1 : P0 = 10 ^ i := by
          rw [hP0]
          have h1 : (10 : Nat) ^ i ≤ 10 ^ 18 := Nat.pow_le_pow_right (by decide) (by omega)
          exact Nat.mod_eq_of_lt (Nat.lt_of_le_of_lt h1 (by decide))
        have hpw := pow_ok 10 i wr (by decide) (by omega)
        rw [← hP0] at hpw
        have HPW := Lib.hid hpw
        have HQ := Lib.hid (HM.out u0 Z P0 di wr HNW.out.ow HNW.out HSm.out (by rw [hP0]; exact Nat.mod_lt _ WB_pos) (by rw [← hp1] at hdi; have : P0 < WB := (by rw [hP0]; exact Nat.mod_lt _ WB_pos); omega) (AlB.refl HNW.out.ow) (Nat.le_trans h17 HKW.out.size))
        have HP1 := Lib.hid hp1
        clear hpw hP0 hp1
        by_cases hd : 0 ≤ dp
        · have td : decide (0 ≤ dp) = true := decide_eq_true hd
          have HCO : Hid (cntOut (StN 10 c0 (fun j => l.getD (s + j) 0) j) = dp - cnt) := Lib.hid (by rw [HStt.out]; exact if_pos hd)
          go_wp2_with fail
          refine HPW.out.mono ?_
          rintro e w5 ⟨rfl, rfl⟩
          go_wp2_with fail
          refine HQ.out.mono ?_
          rintro e w6 ⟨z6, rfl, hz6⟩
          have HZ6 := Lib.hid hz6
          clear hz6
          go_wp2_with fail
          (try simp only [Exit.inBlock, Exit.then]); refine bodyPost_ret (results_tmp4 rfl _ _ _) rfl ?_
          refine HQ0.out _ _ ⟨z6, by rw [HCO.out]; rfl, by rw [HStt.out]; rw [← HP1.out]; exact HZ6.out.nt, HRW.out.chg HZ6.out.chg (fun o f => by have := hS.out.fp _ _ f; omega), HKW.out.then HZ6.out.chg (fun x o hx f => by have := hS.out.fp x o f; omega), fun x o f => ?_⟩
          rcases HZ6.out.fp x o f with f | f
          · exact hS.out.fp x o f
          · have := HKW.out.size; omega
        · have td : decide (0 ≤ dp) = false := decide_eq_false hd
          have HCO : Hid (cntOut (StN 10 c0 (fun j => l.getD (s + j) 0) j) = cnt) := Lib.hid (by rw [HStt.out]; exact if_neg hd)
          go_wp2_with fail
          refine HPW.out.mono ?_
          rintro e w5 ⟨rfl, rfl⟩
          go_wp2_with fail
          refine HQ.out.mono ?_
          rintro e w6 ⟨z6, rfl, hz6⟩
          have HZ6 := Lib.hid hz6
          clear hz6
          go_wp2_with fail
          (try simp only [Exit.inBlock, Exit.then]); refine bodyPost_ret (results_tmp4 rfl _ _ _) rfl ?_
          refine HQ0.out _ _ ⟨z6, by rw [HCO.out]; rfl, by rw [HStt.out]; rw [← HP1.out]; exact HZ6.out.nt, HRW.out.chg HZ6.out.chg (fun o f => by have := hS.out.fp _ _ f; omega), HKW.out.then HZ6.out.chg (fun x o hx f => by have := hS.out.fp x o f; omega), fun x o f => ?_⟩
          rcases HZ6.out.fp x o f with f | f
          · exact hS.out.fp x o f
          · have := HKW.out.size; omega
end Go.Proofs.YtacfhndledcmgaaGreatDoor
