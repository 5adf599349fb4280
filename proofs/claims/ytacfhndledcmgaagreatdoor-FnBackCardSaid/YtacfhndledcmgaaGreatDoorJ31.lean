/- Lemmas for the law FnBack: nat.scan in base 16. Conditions: those in each theorem; none besides. -/
import Derived.Test.YtacfhndledcmgaaGreatDoorJ22
set_option linter.unusedVariables false
set_option linter.unusedSimpArgs false
namespace Go.Proofs.YtacfhndledcmgaaGreatDoor
open Go.RowKit
theorem full_alg16 (A di d : Nat) : (A * 16 ^ 15 + di) * 16 + d = (A * WB + (di * 16 + d)) * 16 ^ 0 + 0 := by
  have : (16 : Nat) ^ 15 * 16 = WB := by decide
  rw [Nat.pow_zero, Nat.mul_one, Nat.add_zero, Nat.add_mul, Nat.mul_assoc, this, Nat.add_assoc]
theorem end_alg16 {A di i K : Nat} (h : i + K = 16) : (A * WB + di * 16 ^ K) / 2 ^ (K * 4) = A * 16 ^ i + di := by
  have h1 : WB = 16 ^ i * 16 ^ K := by rw [← Nat.pow_add, h]; decide
  have h2 : (2 : Nat) ^ (K * 4) = 16 ^ K := by rw [Nat.mul_comm, Nat.pow_mul]
  rw [h1, h2, ← Nat.mul_assoc, ← Nat.add_mul, Nat.mul_div_cancel _ (Nat.pow_pos (by decide))]
theorem hz_lt : ∀ us : List Nat, (∀ x ∈ us, x < WB) → hz us.reverse < WB ^ us.length
  | [], _ => by simp [hz]
  | x :: us, h => by
    have ih := hz_lt us fun y hy => h y (by simp [hy])
    have hx := h x (by simp)
    rw [List.reverse_cons, hz_snoc, List.length_cons, Nat.pow_succ]
    generalize hz us.reverse = A at *
    generalize WB ^ us.length = B at *
    have : A * WB + WB ≤ B * WB := by rw [← Nat.succ_mul]; exact Nat.mul_le_mul_right _ ih
    omega
theorem hz_lt' (ws : List Nat) (h : ∀ x ∈ ws, x < WB) : hz ws < WB ^ ws.length := by
  have := hz_lt ws.reverse (fun x hx => h x (by simpa using hx))
  rwa [List.reverse_reverse, List.length_reverse] at this
/-- A list of words turned round. -/
theorem ls_reverse {w w' : World} {v : Value} {ws : List Nat} {b o c : Nat} (hv : v = .slice (some ⟨b, o, none⟩) ws.length c) (hn : NK .u64 WB w b o ws.length c) (h : ∀ j (hj : j < ws.length), wd w b (o + j) = ws[j])
    (hr : ∀ p, p < ws.length → wd w' b (o + p) = wd w b (o + (ws.length - 1 - p))) (hc : Chg (Rng b o ws.length) w w') : Ls .u64 WB w' v ws.reverse := by
  refine .inr ⟨b, o, c, by rw [hv, List.length_reverse], by rw [List.length_reverse]; exact hn.chg km64 hc, fun j hj => ?_⟩
  rw [List.length_reverse] at hj
  rw [hr j hj, h _ (by omega), List.getElem_reverse]
/-- The state of the scan in base 16 ahead of byte j. -/
structure Sc16 (eo : Addr) (w0 w : World) (r : Nat) (l : List Nat) (s c0 : Nat) (fo : Bool) (j : Nat) (z : Value) (fk : Bool) (cnt : Nat) (err : Value) (pv : Int) (chv : Value) (di i : Nat) (ws : List Nat) (dp : Int) : Prop where
  st : StN 16 c0 (fun j => l.getD (s + j) 0) j = (cnt, hz ws * 16 ^ i + di, dp)
  fk : fk = (fo && decide (dp < 0))
  pv : pv = 46 ∨ pv = 48
  cur : Cur eo w r l (s + j) chv err
  ls : Ls .u64 WB w z ws
  ct : cnt = 16 * ws.length + i
  fp : ∀ x o, Fp z x o → w0.heap.size ≤ x
  i16 : i < 16
  di : di < 16 ^ i
  chg : Chg (Blk r) w0 w
set_option maxRecDepth 1000000 in
set_option maxHeartbeats 8000000 in
theorem scan_rest16 {Q0 : Ending → World → Prop} {u4 u5 u6 u7 u12 u17 u18 u19 u20 u21 u22 u23 u24 u25 u26 u27 u28 u29 u30 u31 u32 u33 u34 u35 u36 u37 u38 u39 u40 u41 u42 u43 u44 u45 u46 u47 u48 u49 u50 u51 u52 u53 u54 u55 u56 u57 u58 u59 u60 u61 u62 u63 u64 u65 u66 u67 u68 u69 u70 u71 u72 u73 u74 u75 u76 u77 u78 u79 u80 u81 u82 u83 u84 u85 u86 u87 u88 u89 u90 u91 u92 u93 u94 u95 u96 u97 u98 u99 u100 u101 u102 u103 u104 u105 u106 u107 u108 u109 u110 u111 u112 u113 u114 u115 u116 u117 u118 u119 u120 u121 u122 u123 u124 u125 u126 u127 u128 u129 u130 u131 u132 u133 u134 u135 u136 u137 u138 u139 u140 u141 u142 u143 u144 u145 u146 u147 u148 u149 u150 u151 u152 u153 u154 u155 u156 u157 u158 u159 u160 u161 u162 u163 u164 u165 u166 u167 u168 u169 u170 u171 u172 u173 u174 u175 u176 u177 u178 u179 u180 u181 u182 u183 u184 u185 u186 u187 u188 u189 u190 u191 u192 u193 u194 u195 u196 u197 u198 u199 u200 u201 u202 u203 u204 u205 u206 u207 u208 u209 u210 u211 u212 u213 u214 u215 u216 u217 u218 u219 u220 u221 u222 u223 u224 u225 u226 u227 u228 u229 u230 u231 u232 u233 u234 u235 u236 u237 u238 u239 u240 u241 u242 u243 u244 u245 u246 u247 u248 u249 u250 u251 u252 u253 u254 u255 u256 u257 u258 u259 u260 u261 u262 u263 u264 u265 u266 u267 u268 u269 u270 u271 u272 u273 err chv : Value} {base : Nat} {fo : Bool} {pv : Int} {w1 : World} (r : Nat) (l : List Nat) (s M c0 : Nat) (eo : Addr) (w : World) (hl : ∀ x ∈ l, x < 256) (hlen : l.length ≤ 2000)
    (hE : w.cell? ⟨0, 0, none⟩ = some (.iface 245 (.pointer (some eo)))) (hM : s + M ≤ l.length) (hg : Mnt 16 c0 fo (fun j => l.getD (s + j) 0) M)
    (hT : s + M = l.length ∨ (103 ≤ l.getD (s + M) 0 ∧ l.getD (s + M) 0 ≤ 122)) (hc : 0 < (StN 16 c0 (fun j => l.getD (s + j) 0) M).1) (h17 : 17 ≤ w.heap.size) (hr17 : 17 ≤ r) (hrs : r < w.heap.size)
    (hpv : pv = 46 ∨ pv = 48) (hcur : Cur eo w1 r l s chv err) (hk : Chg (Blk r) w w1) (hc0 : c0 = 0) (hQ0 : ∀ e w', ScanOut 16 r l (s + M) (StN 16 c0 (fun j => l.getD (s + j) 0) M) w e w' → Q0 e w') :
    Code.wp Tryz.prog scanRest (bodyPost Tryz.prog Tryz.f89 Q0) ⟨#[.slice none 0 0, .iface 133 (.pointer (some ⟨r, 0, none⟩)), .int .i64 base, .bool fo, u4, u5, u6, u7, .slice none 0 0, .int .i64 16, .int .i64 c0, err, u12, .int .i32 pv, .bool false, chv, .int .i64 120, u17, u18, u19, u20, u21, u22, u23, u24, u25, u26, u27, u28, u29, u30, u31, u32, u33, u34, u35, u36, u37, u38, u39, u40, u41, u42, u43, u44, u45, u46, u47, u48, u49, u50, u51, u52, u53, u54, u55, u56, u57, u58, u59, u60, u61, u62, u63, u64, u65, u66, u67, u68, u69, u70, u71, u72, u73, u74, u75, u76, u77, u78, u79, u80, u81, u82, u83, u84, u85, u86, u87, u88, u89, u90, u91, u92, u93, u94, u95, u96, u97, u98, u99, u100, u101, u102, u103, u104, u105, u106, u107, u108, u109, u110, u111, u112, u113, u114, u115, u116, u117, u118, u119, u120, u121, u122, u123, u124, u125, u126, u127, u128, u129, u130, u131, u132, u133, u134, u135, u136, u137, u138, u139, u140, u141, u142, u143, u144, u145, u146, u147, u148, u149, u150, u151, u152, u153, u154, u155, u156, u157, u158, u159, u160, u161, u162, u163, u164, u165, u166, u167, u168, u169, u170, u171, u172, u173, u174, u175, u176, u177, u178, u179, u180, u181, u182, u183, u184, u185, u186, u187, u188, u189, u190, u191, u192, u193, u194, u195, u196, u197, u198, u199, u200, u201, u202, u203, u204, u205, u206, u207, u208, u209, u210, u211, u212, u213, u214, u215, u216, u217, u218, u219, u220, u221, u222, u223, u224, u225, u226, u227, u228, u229, u230, u231, u232, u233, u234, u235, u236, u237, u238, u239, u240, u241, u242, u243, u244, u245, u246, u247, u248, u249, u250, u251, u252, u253, u254, u255, u256, u257, u258, u259, u260, u261, u262, u263, u264, u265, u266, u267, u268, u269, u270, u271, u272, u273], []⟩ w1 := by
  conv => arg 2; whnf
  have H1 : Hid (∀ W i, RdAt W r l i → i ≤ l.length → W.cell? ⟨0, 0, none⟩ = some (.iface 245 (.pointer (some eo))) → Calls Tryz.prog 90 #[.pointer (some ⟨r, 0, none⟩)] W (CurOut eo r l i W)) := Lib.hid fun W i h1 h2 h3 => rdr_next eo r l i W h1 hl h2 (by omega) h3
  have H2 : Hid (∀ W i, RdAt W r l (i + 1) → i < l.length → _) := Lib.hid fun W i hW hi => rdr_unread r l i W hW (by omega)
  have m1 := meth_read (.pointer (some ⟨r, 0, none⟩))
  have m2 := meth_unread (.pointer (some ⟨r, 0, none⟩))
  have HQ0 := Lib.hid hQ0
  have HE := Lib.hid hE
  have HG := Lib.hid hg
  have HT := Lib.hid hT
  have HC := Lib.hid hc
  have HK := Lib.hid hk
  have HCur := Lib.hid hcur
  have h0r : r ≠ 0 := by omega
  have HC0 := Lib.hid hc0
  have hc1 : c0 ≤ 1 := by omega
  clear hE hg hT hc hl hk hcur hQ0 hc0
  obtain ⟨ci, hi1, hi2, hi3, hi4⟩ := info_of info149
  go_wp2_with fail
  go_loopg [0, 3, 10, 11, 13, 14, 15, 20, 21, 22] M (fun gk zv fv cv ev pvv isv chvv dv iv dpv wr => ∃ (j cnt di i : Nat) (ws : List Nat) (fk : Bool) (pv : Int) (dp : Int), j + gk = M ∧ fv = .bool fk ∧ cv = .int .i64 cnt ∧ pvv = .int .i32 pv ∧ isv = .bool false ∧ dv = .int .u64 di ∧ iv = .int .i64 i ∧ dpv = .int .i64 dp ∧ Hid (Sc16 eo w wr r l s c0 fo j zv fk cnt ev pv chvv di i ws dp))
  case atStart =>
    refine ⟨0, c0, 0, 0, [], fo, pv, -1, by omega, rfl, rfl, rfl, rfl, rfl, rfl, rfl, Lib.hid ⟨rfl, by simp, hpv, by rw [Nat.add_zero]; exact HCur.out, .inl ⟨rfl, rfl⟩, by simp [HC0.out], fun x o f => f.elim, by decide, by decide, HK.out⟩⟩
  case round =>
  obtain ⟨j, cnt, di, i, ws, fk, pv2, dp, hj, rfl, rfl, rfl, rfl, rfl, rfl, rfl, hS⟩ := hrel
  have hst := hS.out.st
  have hB := StN_cnt 16 c0 (fun j => l.getD (s + j) 0) j
  rw [hst] at hB
  have hLt := StN_lt HG.out (by decide) j (by omega)
  rw [hst] at hLt
  simp only at hB hLt
  have hcb : cnt ≤ 2001 := by omega
  have hi16 := hS.out.i16
  have hdi := hS.out.di
  have hwl : ws.length ≤ 126 := by have := hS.out.ct; omega
  have hpv2 := hS.out.pv
  have h17r : 17 ≤ wr.heap.size := Nat.le_trans h17 hS.out.chg.size
  have hEr : wr.cell? ⟨0, 0, none⟩ = some (.iface 245 (.pointer (some eo))) := eof_chg HE.out hS.out.chg (fun f => h0r f.symm)
  have HEr := Lib.hid hEr
  have HLt := Lib.hid hLt
  have HB := Lib.hid hB
  clear hEr hLt hB hst
  by_cases hjM : j < M
  · obtain ⟨g1, hg1⟩ : ∃ g, gk = g + 1 := ⟨gk - 1, by omega⟩
    obtain ⟨hlt, rfl, rfl, hR⟩ := hS.out.cur.resolve_right (fun h => by have := h.1; omega)
    obtain ⟨c, hcd⟩ : ∃ c, c = l.getD (s + j) 0 := ⟨_, rfl⟩
    rw [← hcd]
    have HR := Lib.hid (H1.out wr (s + j + 1) hR (by omega) HEr.out)
    have hgj := HG.out j hjM
    simp only [← hcd] at hgj
    have HCD := Lib.hid hcd
    have HRd := Lib.hid hR
    clear hR hcd
    rcases hgj with ⟨rfl, hfo, hdp⟩ | ⟨hn46, hdg⟩
    · have hfk : fk = true := by
        have h1 := hS.out.fk
        rw [hS.out.st] at hdp
        rw [h1, hfo]
        simp only at hdp
        rw [hdp]; rfl
      subst hfk
      have tp : ((pv2 : Int) == 95) = false := by simp; omega
      go_wp2_with fail
      refine HR.out.mono ?_
      rintro e w2 ⟨chv2, errv2, rfl, hcur2, hk2⟩
      have HCur2 := Lib.hid hcur2
      have HK2 := Lib.hid hk2
      clear hcur2 hk2
      go_wp2_with fail
      go_roundg g1
      case measure => omega
      case rel =>
        refine ⟨j + 1, cnt, di, i, ws, false, 46, (cnt : Int), by omega, rfl, rfl, rfl, rfl, rfl, rfl, rfl, Lib.hid ⟨StN_dot hS.out.st HCD.out.symm, ?_, .inl rfl, by rw [← Nat.add_assoc]; exact HCur2.out, hS.out.ls.chg km64 HK2.out (fun x o f e => ?_), hS.out.ct, hS.out.fp, hS.out.i16, hS.out.di, hS.out.chg.then HK2.out (fun _ _ _ f => f)⟩⟩
        · rw [hfo]; simp
        · have h1 : x = r := e
          have := hS.out.fp x o f; omega
    · obtain ⟨d, hd⟩ : ∃ d, d = dgv c := ⟨_, rfl⟩
      have hdcs : d < 16 ∧ ((48 ≤ c ∧ c ≤ 57 ∧ d = c - 48) ∨ (97 ≤ c ∧ c ≤ 122 ∧ d = c - 87)) := by
        obtain ⟨h1, h2⟩ := hdg
        rw [← hd] at h2
        unfold dgv at hd
        split at hd <;> omega
      have t46 : ((c : Int) == 46) = false := by simp; omega
      have t95 : ((c : Int) == 95) = false := by simp; omega
      obtain ⟨P1, hP1⟩ : ∃ P1, P1 = di * 16 := ⟨_, rfl⟩
      obtain ⟨D2, hD2⟩ : ∃ D2, D2 = P1 + d := ⟨_, rfl⟩
      have hpw : (16 : Nat) ^ i ≤ 16 ^ 15 := Nat.pow_le_pow_right (by decide) (by omega)
      have hp18 : (16 : Nat) ^ 15 = 1152921504606846976 := by decide
      have e3 : IntKind.u64.wrap ((di : Int) * 16) = (P1 : Int) := by rw [IntKind.wrap_u64]; omega
      have e4 : IntKind.u64.wrap ((P1 : Int) + (d : Int)) = (D2 : Int) := by rw [IntKind.wrap_u64]; omega
      have hD2b : D2 < 16 ^ (i + 1) := by rw [Nat.pow_succ]; omega
      have HD2 := Lib.hid hD2b
      have HDD := Lib.hid (show D2 = di * 16 + dgv c by omega)
      have HN46 := Lib.hid hn46
      have hd16 := hdcs.1
      have i3 : ¬ (16 : Int) ≤ (d : Int) := by omega
      rcases hdcs.2 with ⟨hc1, hc2, hdc⟩ | ⟨hc1, hc2, hdc⟩
      · have e1 : IntKind.u8.wrap ((c : Int) - 48) = (d : Int) := by rw [IntKind.wrap_u8]; omega
        have i1 : (48 : Int) ≤ (c : Int) := by omega
        have i2 : (c : Int) ≤ 57 := by omega
        clear hpw hp18 hD2b hP1 hD2 hd hdg hn46 hdi hdc hdcs
        by_cases hi : i = 15
        · subst hi
          have hD2w : D2 < WB := Nat.lt_of_lt_of_le HD2.out (by decide)
          go_wp2_with (at_builtin; refine wpList_append_num rfl km64 (.tmp 193) (.tmp 195) 85 85 149 rfl ci Tryz.underlying85 hi1 hi2 hi3 (by rw [hi4]; omega) _ ws rfl (Ls.alloc km64 hS.out.ls _) _ rfl [D2] (Src.one Tryz.underlying85 _ _ _ _) (by simpa using hD2w) (by simp) (by simp; omega) (by simp; omega) ?_; intro z3 w3 happ; have HA := Lib.hid happ; have HKA := Lib.hid (((Chg.refl (Fp u0) wr).alloc _).then happ.chg (fun _ _ _ f => f)); have hR3 := HRd.out.chg HKA.out (fun o f => by have := hS.out.fp _ _ f; omega); have HR3 := Lib.hid (H1.out w3 (s + j + 1) hR3 (by omega) (eof_chg HEr.out HKA.out (fun f => by have := hS.out.fp _ _ f; omega))); clear happ hR3)
          refine HR3.out.mono ?_
          rintro e w2 ⟨chv2, errv2, rfl, hcur2, hk2⟩
          have HCur2 := Lib.hid hcur2
          have HK2 := Lib.hid hk2
          clear hcur2 hk2
          go_wp2_with fail
          go_roundg g1
          case measure => omega
          case rel =>
            have hfp : ∀ x o, Fp z3 x o → w.heap.size ≤ x := fun x o f => by
              rcases HA.out.fp x o f with f | f
              · exact hS.out.fp x o f
              · have := hS.out.chg.size; simp at f; omega
            refine ⟨j + 1, cnt + 1, 0, 0, ws ++ [D2], fk, 48, dp, by omega, rfl, by go_num, rfl, rfl, rfl, rfl, rfl, Lib.hid ⟨?_, hS.out.fk, .inr rfl, by rw [← Nat.add_assoc]; exact HCur2.out, HA.out.ls.chg km64 HK2.out (fun x o f e => ?_), by have := hS.out.ct; simp; omega, hfp, by decide, by decide, (hS.out.chg.then HKA.out (fun x o hx f => by have := hS.out.fp x o f; omega)).then HK2.out (fun _ _ _ f => f)⟩⟩
            · rw [StN_dig hS.out.st (by rw [← HCD.out]; exact HN46.out), ← HCD.out, HDD.out, full_alg16, hz_snoc]
            · have h1 : x = r := e
              have := hfp x o f; omega
        · have ti : ((i : Int) + 1 == 16) = false := by simp; omega
          go_wp2_with fail
          refine HR.out.mono ?_
          rintro e w2 ⟨chv2, errv2, rfl, hcur2, hk2⟩
          have HCur2 := Lib.hid hcur2
          have HK2 := Lib.hid hk2
          clear hcur2 hk2
          go_wp2_with fail
          go_roundg g1
          case measure => omega
          case rel =>
            refine ⟨j + 1, cnt + 1, D2, i + 1, ws, fk, 48, dp, by omega, rfl, by go_num, rfl, rfl, rfl, by go_num, rfl, Lib.hid ⟨?_, hS.out.fk, .inr rfl, by rw [← Nat.add_assoc]; exact HCur2.out, hS.out.ls.chg km64 HK2.out (fun x o f e => ?_), by have := hS.out.ct; omega, hS.out.fp, by omega, HD2.out, hS.out.chg.then HK2.out (fun _ _ _ f => f)⟩⟩
            · rw [StN_dig hS.out.st (by rw [← HCD.out]; exact HN46.out), ← HCD.out, HDD.out]
              congr 2
              rw [Nat.pow_succ]; simp only [Nat.add_mul, Nat.mul_assoc, Nat.add_assoc]
            · have h1 : x = r := e
              have := hS.out.fp x o f; omega
      · obtain ⟨d0, hd0⟩ : ∃ d0, d0 = c - 97 := ⟨_, rfl⟩
        have e1 : IntKind.u8.wrap ((c : Int) - 97) = (d0 : Int) := by rw [IntKind.wrap_u8]; omega
        have e2 : IntKind.u8.wrap ((d0 : Int) + 10) = (d : Int) := by rw [IntKind.wrap_u8]; omega
        have i0 : (48 : Int) ≤ (c : Int) := by omega
        have i1 : ¬ (c : Int) ≤ 57 := by omega
        have i2 : (97 : Int) ≤ (c : Int) := by omega
        have i4 : (c : Int) ≤ 122 := by omega
        have hd0b : d0 < 26 := by omega
        clear hpw hp18 hD2b hP1 hD2 hd hdg hn46 hdi hdc hdcs hd0
        by_cases hi : i = 15
        · subst hi
          have hD2w : D2 < WB := Nat.lt_of_lt_of_le HD2.out (by decide)
          go_wp2_with (at_builtin; refine wpList_append_num rfl km64 (.tmp 193) (.tmp 195) 85 85 149 rfl ci Tryz.underlying85 hi1 hi2 hi3 (by rw [hi4]; omega) _ ws rfl (Ls.alloc km64 hS.out.ls _) _ rfl [D2] (Src.one Tryz.underlying85 _ _ _ _) (by simpa using hD2w) (by simp) (by simp; omega) (by simp; omega) ?_; intro z3 w3 happ; have HA := Lib.hid happ; have HKA := Lib.hid (((Chg.refl (Fp u0) wr).alloc _).then happ.chg (fun _ _ _ f => f)); have hR3 := HRd.out.chg HKA.out (fun o f => by have := hS.out.fp _ _ f; omega); have HR3 := Lib.hid (H1.out w3 (s + j + 1) hR3 (by omega) (eof_chg HEr.out HKA.out (fun f => by have := hS.out.fp _ _ f; omega))); clear happ hR3)
          refine HR3.out.mono ?_
          rintro e w2 ⟨chv2, errv2, rfl, hcur2, hk2⟩
          have HCur2 := Lib.hid hcur2
          have HK2 := Lib.hid hk2
          clear hcur2 hk2
          go_wp2_with fail
          go_roundg g1
          case measure => omega
          case rel =>
            have hfp : ∀ x o, Fp z3 x o → w.heap.size ≤ x := fun x o f => by
              rcases HA.out.fp x o f with f | f
              · exact hS.out.fp x o f
              · have := hS.out.chg.size; simp at f; omega
            refine ⟨j + 1, cnt + 1, 0, 0, ws ++ [D2], fk, 48, dp, by omega, rfl, by go_num, rfl, rfl, rfl, rfl, rfl, Lib.hid ⟨?_, hS.out.fk, .inr rfl, by rw [← Nat.add_assoc]; exact HCur2.out, HA.out.ls.chg km64 HK2.out (fun x o f e => ?_), by have := hS.out.ct; simp; omega, hfp, by decide, by decide, (hS.out.chg.then HKA.out (fun x o hx f => by have := hS.out.fp x o f; omega)).then HK2.out (fun _ _ _ f => f)⟩⟩
            · rw [StN_dig hS.out.st (by rw [← HCD.out]; exact HN46.out), ← HCD.out, HDD.out, full_alg16, hz_snoc]
            · have h1 : x = r := e
              have := hfp x o f; omega
        · have ti : ((i : Int) + 1 == 16) = false := by simp; omega
          go_wp2_with fail
          refine HR.out.mono ?_
          rintro e w2 ⟨chv2, errv2, rfl, hcur2, hk2⟩
          have HCur2 := Lib.hid hcur2
          have HK2 := Lib.hid hk2
          clear hcur2 hk2
          go_wp2_with fail
          go_roundg g1
          case measure => omega
          case rel =>
            refine ⟨j + 1, cnt + 1, D2, i + 1, ws, fk, 48, dp, by omega, rfl, by go_num, rfl, rfl, rfl, by go_num, rfl, Lib.hid ⟨?_, hS.out.fk, .inr rfl, by rw [← Nat.add_assoc]; exact HCur2.out, hS.out.ls.chg km64 HK2.out (fun x o f e => ?_), by have := hS.out.ct; omega, hS.out.fp, by omega, HD2.out, hS.out.chg.then HK2.out (fun _ _ _ f => f)⟩⟩
            · rw [StN_dig hS.out.st (by rw [← HCD.out]; exact HN46.out), ← HCD.out, HDD.out]
              congr 2
              rw [Nat.pow_succ]; simp only [Nat.add_mul, Nat.mul_assoc, Nat.add_assoc]
            · have h1 : x = r := e
              have := hS.out.fp x o f; omega
  · obtain rfl : j = M := by omega
    rcases hS.out.cur with ⟨hlt, rfl, rfl, hR⟩ | ⟨he, rfl, rfl, hRe⟩
    · obtain ⟨c, hcd⟩ : ∃ c, c = l.getD (s + j) 0 := ⟨_, rfl⟩
      have hct := HT.out.resolve_left (by omega)
      rw [← hcd] at hct ⊢
      have HU := Lib.hid (H2.out wr (s + j) hR hlt)
      have t46 : ((c : Int) == 46) = false := by simp; omega
      have t95 : ((c : Int) == 95) = false := by simp; omega
      obtain ⟨d, hd⟩ : ∃ d, d = c - 97 := ⟨_, rfl⟩
      have e1 : IntKind.u8.wrap ((c : Int) - 97) = (d : Int) := by rw [IntKind.wrap_u8]; omega
      have i0 : (48 : Int) ≤ (c : Int) := by omega
      have i1 : ¬ (c : Int) ≤ 57 := by omega
      have i2 : (97 : Int) ≤ (c : Int) := by omega
      have i3 : (c : Int) ≤ 122 := by omega
      have hd26 : d < 26 := by omega
      have i4 : (16 : Int) ≤ (d : Int) + 10 := by omega
      clear hR hcd hd
      go_wp2_with fail
      refine HU.out.mono ?_
      rintro e w2 ⟨rfl, hR2, hk2⟩
      have HR2 := Lib.hid hR2
      have HK2 := Lib.hid hk2
      clear hR2 hk2 hct t46 t95 e1 i0 i1 i2 i3 i4 hd26 HU hj hjM
      have tpv : ((pv2 : Int) == 95) = false := by simp; omega
      have tc0 : ((cnt : Int) == 0) = false := by
        have h1 := HC.out
        rw [hS.out.st] at h1
        simp only at h1
        simp; omega
      have hcn : 0 < cnt := by
        have h1 := HC.out
        rw [hS.out.st] at h1
        exact h1
      have HStt := Lib.hid hS.out.st
      have hdp := HB.out
      have HKW := Lib.hid (hS.out.chg.then HK2.out (fun _ _ _ f => f))
      have HRW : Hid (RdAt w2 r l (s + j)) := Lib.hid (HR2.out)
      have q1 := eof_nil eo
      have q2 := eof_eof eo
      have hEW : w2.cell? ⟨0, 0, none⟩ = some (.iface 245 (.pointer (some eo))) := eof_chg HE.out HKW.out (fun f => h0r f.symm)
      have HLW : Hid (Ls .u64 WB w2 u0 ws) := Lib.hid (hS.out.ls.chg km64 HK2.out (fun x o f e => by have h1 : x = r := e; have := hS.out.fp x o f; omega))
      obtain ⟨dq, HCO⟩ : ∃ dq : Int, Hid (dq = cntOut (StN 16 c0 (fun j => l.getD (s + j) 0) j)) := ⟨_, Lib.hid rfl⟩
      by_cases hi0 : i = 0
      · subst hi0
        obtain rfl : di = 0 := by simp at hdi; omega
        have hw0 : 0 < ws.length := by have := hS.out.ct; omega
        obtain ⟨b, o, c, rfl, hnk, hvl⟩ := HLW.out.resolve_left (fun h => by rw [h.2] at hw0; exact absurd hw0 (by decide))
        have HRV := Lib.hid (words_reverse b o ws.length c w2 hnk.nw hw0 (by omega))
        have HNK := Lib.hid hnk
        have HVL := Lib.hid hvl
        clear hnk hvl
        by_cases hd : 0 ≤ dp
        · have td : decide (0 ≤ dp) = true := decide_eq_true hd
          have HCP : Hid (dq = dp - cnt) := Lib.hid (by rw [HCO.out, HStt.out]; exact if_pos hd)
          go_wp2_with fail
          refine HRV.out.mono ?_
          rintro e w5 ⟨rfl, hv5, hk5⟩
          have hk5' : Chg (Fp (.slice (some ⟨b, o, none⟩) ws.length c)) w2 w5 := hk5.mono (fun x o' _ f => ⟨f.1, f.2.1, Nat.lt_of_lt_of_le f.2.2 (Nat.add_le_add_left HNK.out.le _)⟩)
          have HK5 := Lib.hid hk5'
          have HN5 := Lib.hid (nat_norm_any _ ws.reverse w5 (ls_reverse rfl HNK.out HVL.out hv5 hk5) (by rw [List.length_reverse]; omega))
          clear hv5 hk5 hk5'
          go_wp2_with fail
          refine HN5.out.mono ?_
          rintro e w6 ⟨z6, rfl, hz6, hf6, rfl⟩
          have HZ6 := Lib.hid hz6
          have HF6 := Lib.hid hf6
          clear hz6 hf6
          go_wp2_with fail
          (try simp only [Exit.inBlock, Exit.then]); refine bodyPost_ret (results_tmp4 rfl _ _ _) rfl ?_
          refine HQ0.out _ _ ⟨z6, by rw [← HCO.out, HCP.out]; rfl, by rw [HStt.out]; have := HZ6.out; rw [Vl_rev] at this; simpa using this, HRW.out.chg HK5.out (fun o f => by have := hS.out.fp _ _ f; omega), HKW.out.then HK5.out (fun x o hx f => by have := hS.out.fp x o f; omega), fun x o f => hS.out.fp x o (HF6.out x o f)⟩
        · have td : decide (0 ≤ dp) = false := decide_eq_false hd
          have HCP : Hid (dq = cnt) := Lib.hid (by rw [HCO.out, HStt.out]; exact if_neg hd)
          go_wp2_with fail
          refine HRV.out.mono ?_
          rintro e w5 ⟨rfl, hv5, hk5⟩
          have hk5' : Chg (Fp (.slice (some ⟨b, o, none⟩) ws.length c)) w2 w5 := hk5.mono (fun x o' _ f => ⟨f.1, f.2.1, Nat.lt_of_lt_of_le f.2.2 (Nat.add_le_add_left HNK.out.le _)⟩)
          have HK5 := Lib.hid hk5'
          have HN5 := Lib.hid (nat_norm_any _ ws.reverse w5 (ls_reverse rfl HNK.out HVL.out hv5 hk5) (by rw [List.length_reverse]; omega))
          clear hv5 hk5 hk5'
          go_wp2_with fail
          refine HN5.out.mono ?_
          rintro e w6 ⟨z6, rfl, hz6, hf6, rfl⟩
          have HZ6 := Lib.hid hz6
          have HF6 := Lib.hid hf6
          clear hz6 hf6
          go_wp2_with fail
          (try simp only [Exit.inBlock, Exit.then]); refine bodyPost_ret (results_tmp4 rfl _ _ _) rfl ?_
          refine HQ0.out _ _ ⟨z6, by rw [← HCO.out, HCP.out]; rfl, by rw [HStt.out]; have := HZ6.out; rw [Vl_rev] at this; simpa using this, HRW.out.chg HK5.out (fun o f => by have := hS.out.fp _ _ f; omega), HKW.out.then HK5.out (fun x o hx f => by have := hS.out.fp x o f; omega), fun x o f => hS.out.fp x o (HF6.out x o f)⟩
      · have ti0 : decide ((0 : Int) < (i : Int)) = true := decide_eq_true (by omega)
        obtain ⟨K, hK⟩ : ∃ K, K = 16 - i := ⟨_, rfl⟩
        have eK : (16 : Int) - (i : Int) = (K : Int) := by omega
        have hK15 : K ≤ 15 := by omega
        have hK0 : 0 < K := by omega
        obtain ⟨P0, hP0⟩ : ∃ P0, P0 = 16 ^ K % WB := ⟨_, rfl⟩
        have hp1 : P0 = 16 ^ K := by
          rw [hP0]
          have h1 : (16 : Nat) ^ K ≤ 16 ^ 15 := Nat.pow_le_pow_right (by decide) hK15
          exact Nat.mod_eq_of_lt (Nat.lt_of_le_of_lt h1 (by decide))
        have hpw := pow_ok 16 K w2 (by decide) (by omega)
        rw [← hP0] at hpw
        have HPW := Lib.hid hpw
        obtain ⟨T0, hT0⟩ : ∃ T0, T0 = di * P0 := ⟨_, rfl⟩
        have hT0w : T0 < WB := by
          rw [hT0, hp1]
          have h1 : (16 : Nat) ^ i * 16 ^ K = WB := by rw [← Nat.pow_add, show i + K = 16 by omega]; decide
          rw [← h1]
          exact Nat.mul_lt_mul_of_pos_right hdi (Nat.pow_pos (by decide))
        have eT : IntKind.u64.wrap ((di : Int) * (P0 : Int)) = (T0 : Int) := by
          rw [hT0, ← Int.natCast_mul, wrap_cast, Nat.mod_eq_of_lt (by rw [← hT0]; exact hT0w)]
        obtain ⟨S4, hS4⟩ : ∃ S4, S4 = K * 4 := ⟨_, rfl⟩
        have eS : (K : Int) * 4 = (S4 : Int) := by omega
        have hS4b : S4 ≤ 60 := by omega
        have hS40 : 0 < S4 := by omega
        have HAL : Hid ((hz ws * WB + T0) / 2 ^ S4 = hz ws * 16 ^ i + di) := Lib.hid (by rw [hT0, hp1, hS4]; exact end_alg16 (by omega))
        have HWL := Lib.hid hwl
        have HLT : Hid (Small (hz ws * WB + T0)) := Lib.hid (by
          have h1 := hz_lt' ws HLW.out.mem
          have h2 : hz ws * WB + WB ≤ WB ^ ws.length * WB := by rw [← Nat.succ_mul]; exact Nat.mul_le_mul_right _ h1
          rw [← Nat.pow_succ] at h2
          unfold Small
          obtain ⟨T, hT⟩ : ∃ T : Nat, T = 1000 := ⟨_, rfl⟩
          rw [← hT]
          have h3 : WB ^ (ws.length + 1) ≤ WB ^ T := Nat.pow_le_pow_right WB_pos (by omega)
          exact Nat.lt_of_lt_of_le (Nat.lt_of_lt_of_le (Nat.add_lt_add_left hT0w _) h2) h3)
        obtain ⟨X1, hX1⟩ : ∃ X1, X1 = hz ws * WB + T0 := ⟨_, rfl⟩
        rw [← hX1] at HAL HLT
        have HX1 := Lib.hid hX1
        clear hpw hP0 hp1 hT0 hS4 hK hX1
        by_cases hd : 0 ≤ dp
        · have td : decide (0 ≤ dp) = true := decide_eq_true hd
          have HCP : Hid (dq = dp - cnt) := Lib.hid (by rw [HCO.out, HStt.out]; exact if_pos hd)
          go_wp2_with fail
          refine HPW.out.mono ?_
          rintro e w5 ⟨rfl, rfl⟩
          go_wp2_with (at_builtin; refine wpList_append_num rfl km64 (.tmp 232) (.tmp 240) 85 85 149 rfl ci Tryz.underlying85 hi1 hi2 hi3 (by rw [hi4]; omega) _ ws rfl (Ls.alloc km64 HLW.out _) _ rfl [T0] (Src.one Tryz.underlying85 _ _ _ _) (by simpa using hT0w) (by simp) (by simp; omega) (by have := HKW.out.size; simp; omega) ?_; intro z3 w3 happ; obtain ⟨vs, hvs⟩ : ∃ vs, vs = ws ++ [T0] := ⟨_, rfl⟩; rw [← hvs] at happ; have hvsl : vs.length = ws.length + 1 := (by rw [hvs]; simp); have hvs0 : 0 < vs.length := (by omega); have hvsb : vs.length ≤ 127 := (by omega); obtain ⟨b, o, c, rfl, hnk, hvl⟩ := happ.ls.resolve_left (fun h => by rw [h.2] at hvs0; exact absurd hvs0 (by decide)); have HA := Lib.hid happ; have HKA := Lib.hid (((Chg.refl (Fp u0) w2).alloc _).then happ.chg (fun _ _ _ f => f)); have HRV := Lib.hid (words_reverse b o vs.length c w3 hnk.nw hvs0 (by omega)); have HNK := Lib.hid hnk; have HVL := Lib.hid hvl; have HVS := Lib.hid hvs; clear happ hnk hvl hvs hvsl)
          have hfp : ∀ x o', Fp (.slice (some ⟨b, o, none⟩) vs.length c) x o' → w.heap.size ≤ x := fun x o' f => by
            rcases HA.out.fp x o' f with f | f
            · exact hS.out.fp x o' f
            · have := HKW.out.size; simp at f; omega
          have HFP := Lib.hid hfp
          clear hfp
          refine HRV.out.mono ?_
          rintro e w5 ⟨rfl, hv5, hk5⟩
          have hk5' : Chg (Fp (.slice (some ⟨b, o, none⟩) vs.length c)) w3 w5 := hk5.mono (fun x o' _ f => ⟨f.1, f.2.1, Nat.lt_of_lt_of_le f.2.2 (Nat.add_le_add_left HNK.out.le _)⟩)
          have HK5 := Lib.hid hk5'
          have HN5 := Lib.hid (nat_norm_any _ vs.reverse w5 (ls_reverse rfl HNK.out HVL.out hv5 hk5) (by rw [List.length_reverse]; omega))
          clear hv5 hk5 hk5'
          go_wp2_with fail
          refine HN5.out.mono ?_
          rintro e w6 ⟨z6, rfl, hz6, hf6, rfl⟩
          rw [Vl_rev, HVS.out, hz_snoc, ← HX1.out] at hz6
          have HQ := Lib.hid (nat_rsh z6 z6 X1 S4 w5 hz6.ow hz6 HLT.out (by omega) (fun h => by omega) (AlB.refl hz6.ow) (by have := HKW.out.size; have := HKA.out.size; have := HK5.out.size; omega))
          have HF6 := Lib.hid hf6
          clear hz6 hf6
          go_wp2_with fail
          refine HQ.out.mono ?_
          rintro e w7 ⟨z7, rfl, hz7⟩
          have HZ7 := Lib.hid hz7
          clear hz7
          go_wp2_with fail
          (try simp only [Exit.inBlock, Exit.then]); refine bodyPost_ret (results_tmp4 rfl _ _ _) rfl ?_
          have hf6 : ∀ x o', Fp z6 x o' → w.heap.size ≤ x := fun x o' f => HFP.out x o' (HF6.out x o' f)
          have hK57 : Chg (Blk r) w w7 := ((HKW.out.then HKA.out (fun x o hx f => by have := hS.out.fp x o f; omega)).then HK5.out (fun x o hx f => by have := HFP.out x o f; omega)).then HZ7.out.chg (fun x o hx f => by have := hf6 x o f; omega)
          refine HQ0.out _ _ ⟨z7, by rw [← HCO.out, HCP.out]; rfl, by rw [HStt.out, ← HAL.out]; exact HZ7.out.nt, ((HRW.out.chg HKA.out (fun o f => by have := hS.out.fp _ _ f; omega)).chg HK5.out (fun o f => by have := HFP.out _ _ f; omega)).chg HZ7.out.chg (fun o f => by have := hf6 _ _ f; omega), hK57, fun x o f => ?_⟩
          rcases HZ7.out.fp x o f with f | f
          · exact hf6 x o f
          · have h1 := HKW.out.size; have h2 := HKA.out.size; have h3 := HK5.out.size; omega
        · have td : decide (0 ≤ dp) = false := decide_eq_false hd
          have HCP : Hid (dq = cnt) := Lib.hid (by rw [HCO.out, HStt.out]; exact if_neg hd)
          go_wp2_with fail
          refine HPW.out.mono ?_
          rintro e w5 ⟨rfl, rfl⟩
          go_wp2_with (at_builtin; refine wpList_append_num rfl km64 (.tmp 232) (.tmp 240) 85 85 149 rfl ci Tryz.underlying85 hi1 hi2 hi3 (by rw [hi4]; omega) _ ws rfl (Ls.alloc km64 HLW.out _) _ rfl [T0] (Src.one Tryz.underlying85 _ _ _ _) (by simpa using hT0w) (by simp) (by simp; omega) (by have := HKW.out.size; simp; omega) ?_; intro z3 w3 happ; obtain ⟨vs, hvs⟩ : ∃ vs, vs = ws ++ [T0] := ⟨_, rfl⟩; rw [← hvs] at happ; have hvsl : vs.length = ws.length + 1 := (by rw [hvs]; simp); have hvs0 : 0 < vs.length := (by omega); have hvsb : vs.length ≤ 127 := (by omega); obtain ⟨b, o, c, rfl, hnk, hvl⟩ := happ.ls.resolve_left (fun h => by rw [h.2] at hvs0; exact absurd hvs0 (by decide)); have HA := Lib.hid happ; have HKA := Lib.hid (((Chg.refl (Fp u0) w2).alloc _).then happ.chg (fun _ _ _ f => f)); have HRV := Lib.hid (words_reverse b o vs.length c w3 hnk.nw hvs0 (by omega)); have HNK := Lib.hid hnk; have HVL := Lib.hid hvl; have HVS := Lib.hid hvs; clear happ hnk hvl hvs hvsl)
          have hfp : ∀ x o', Fp (.slice (some ⟨b, o, none⟩) vs.length c) x o' → w.heap.size ≤ x := fun x o' f => by
            rcases HA.out.fp x o' f with f | f
            · exact hS.out.fp x o' f
            · have := HKW.out.size; simp at f; omega
          have HFP := Lib.hid hfp
          clear hfp
          refine HRV.out.mono ?_
          rintro e w5 ⟨rfl, hv5, hk5⟩
          have hk5' : Chg (Fp (.slice (some ⟨b, o, none⟩) vs.length c)) w3 w5 := hk5.mono (fun x o' _ f => ⟨f.1, f.2.1, Nat.lt_of_lt_of_le f.2.2 (Nat.add_le_add_left HNK.out.le _)⟩)
          have HK5 := Lib.hid hk5'
          have HN5 := Lib.hid (nat_norm_any _ vs.reverse w5 (ls_reverse rfl HNK.out HVL.out hv5 hk5) (by rw [List.length_reverse]; omega))
          clear hv5 hk5 hk5'
          go_wp2_with fail
          refine HN5.out.mono ?_
          rintro e w6 ⟨z6, rfl, hz6, hf6, rfl⟩
          rw [Vl_rev, HVS.out, hz_snoc, ← HX1.out] at hz6
          have HQ := Lib.hid (nat_rsh z6 z6 X1 S4 w5 hz6.ow hz6 HLT.out (by omega) (fun h => by omega) (AlB.refl hz6.ow) (by have := HKW.out.size; have := HKA.out.size; have := HK5.out.size; omega))
          have HF6 := Lib.hid hf6
          clear hz6 hf6
          go_wp2_with fail
          refine HQ.out.mono ?_
          rintro e w7 ⟨z7, rfl, hz7⟩
          have HZ7 := Lib.hid hz7
          clear hz7
          go_wp2_with fail
          (try simp only [Exit.inBlock, Exit.then]); refine bodyPost_ret (results_tmp4 rfl _ _ _) rfl ?_
          have hf6 : ∀ x o', Fp z6 x o' → w.heap.size ≤ x := fun x o' f => HFP.out x o' (HF6.out x o' f)
          have hK57 : Chg (Blk r) w w7 := ((HKW.out.then HKA.out (fun x o hx f => by have := hS.out.fp x o f; omega)).then HK5.out (fun x o hx f => by have := HFP.out x o f; omega)).then HZ7.out.chg (fun x o hx f => by have := hf6 x o f; omega)
          refine HQ0.out _ _ ⟨z7, by rw [← HCO.out, HCP.out]; rfl, by rw [HStt.out, ← HAL.out]; exact HZ7.out.nt, ((HRW.out.chg HKA.out (fun o f => by have := hS.out.fp _ _ f; omega)).chg HK5.out (fun o f => by have := HFP.out _ _ f; omega)).chg HZ7.out.chg (fun o f => by have := hf6 _ _ f; omega), hK57, fun x o f => ?_⟩
          rcases HZ7.out.fp x o f with f | f
          · exact hf6 x o f
          · have h1 := HKW.out.size; have h2 := HKA.out.size; have h3 := HK5.out.size; omega
    · clear HCur
      have HHe := Lib.hid he
      have hRe2 : RdAt wr r l (s + j) := by rw [he]; exact hRe
      clear he
      have tpv : ((pv2 : Int) == 95) = false := by simp; omega
      have tc0 : ((cnt : Int) == 0) = false := by
        have h1 := HC.out
        rw [hS.out.st] at h1
        simp only at h1
        simp; omega
      have hcn : 0 < cnt := by
        have h1 := HC.out
        rw [hS.out.st] at h1
        exact h1
      have HStt := Lib.hid hS.out.st
      have hdp := HB.out
      have HKW := Lib.hid (hS.out.chg)
      have HRW : Hid (RdAt wr r l (s + j)) := Lib.hid (hRe2)
      have q1 := eof_nil eo
      have q2 := eof_eof eo
      have hEW : wr.cell? ⟨0, 0, none⟩ = some (.iface 245 (.pointer (some eo))) := eof_chg HE.out HKW.out (fun f => h0r f.symm)
      have HLW : Hid (Ls .u64 WB wr u0 ws) := Lib.hid (hS.out.ls)
      obtain ⟨dq, HCO⟩ : ∃ dq : Int, Hid (dq = cntOut (StN 16 c0 (fun j => l.getD (s + j) 0) j)) := ⟨_, Lib.hid rfl⟩
      by_cases hi0 : i = 0
      · subst hi0
        obtain rfl : di = 0 := by simp at hdi; omega
        have hw0 : 0 < ws.length := by have := hS.out.ct; omega
        obtain ⟨b, o, c, rfl, hnk, hvl⟩ := HLW.out.resolve_left (fun h => by rw [h.2] at hw0; exact absurd hw0 (by decide))
        have HRV := Lib.hid (words_reverse b o ws.length c wr hnk.nw hw0 (by omega))
        have HNK := Lib.hid hnk
        have HVL := Lib.hid hvl
        clear hnk hvl
        by_cases hd : 0 ≤ dp
        · have td : decide (0 ≤ dp) = true := decide_eq_true hd
          have HCP : Hid (dq = dp - cnt) := Lib.hid (by rw [HCO.out, HStt.out]; exact if_pos hd)
          go_wp2_with fail
          refine HRV.out.mono ?_
          rintro e w5 ⟨rfl, hv5, hk5⟩
          have hk5' : Chg (Fp (.slice (some ⟨b, o, none⟩) ws.length c)) wr w5 := hk5.mono (fun x o' _ f => ⟨f.1, f.2.1, Nat.lt_of_lt_of_le f.2.2 (Nat.add_le_add_left HNK.out.le _)⟩)
          have HK5 := Lib.hid hk5'
          have HN5 := Lib.hid (nat_norm_any _ ws.reverse w5 (ls_reverse rfl HNK.out HVL.out hv5 hk5) (by rw [List.length_reverse]; omega))
          clear hv5 hk5 hk5'
          go_wp2_with fail
          refine HN5.out.mono ?_
          rintro e w6 ⟨z6, rfl, hz6, hf6, rfl⟩
          have HZ6 := Lib.hid hz6
          have HF6 := Lib.hid hf6
          clear hz6 hf6
          go_wp2_with fail
          (try simp only [Exit.inBlock, Exit.then]); refine bodyPost_ret (results_tmp4 rfl _ _ _) rfl ?_
          refine HQ0.out _ _ ⟨z6, by rw [← HCO.out, HCP.out]; rfl, by rw [HStt.out]; have := HZ6.out; rw [Vl_rev] at this; simpa using this, HRW.out.chg HK5.out (fun o f => by have := hS.out.fp _ _ f; omega), HKW.out.then HK5.out (fun x o hx f => by have := hS.out.fp x o f; omega), fun x o f => hS.out.fp x o (HF6.out x o f)⟩
        · have td : decide (0 ≤ dp) = false := decide_eq_false hd
          have HCP : Hid (dq = cnt) := Lib.hid (by rw [HCO.out, HStt.out]; exact if_neg hd)
          go_wp2_with fail
          refine HRV.out.mono ?_
          rintro e w5 ⟨rfl, hv5, hk5⟩
          have hk5' : Chg (Fp (.slice (some ⟨b, o, none⟩) ws.length c)) wr w5 := hk5.mono (fun x o' _ f => ⟨f.1, f.2.1, Nat.lt_of_lt_of_le f.2.2 (Nat.add_le_add_left HNK.out.le _)⟩)
          have HK5 := Lib.hid hk5'
          have HN5 := Lib.hid (nat_norm_any _ ws.reverse w5 (ls_reverse rfl HNK.out HVL.out hv5 hk5) (by rw [List.length_reverse]; omega))
          clear hv5 hk5 hk5'
          go_wp2_with fail
          refine HN5.out.mono ?_
          rintro e w6 ⟨z6, rfl, hz6, hf6, rfl⟩
          have HZ6 := Lib.hid hz6
          have HF6 := Lib.hid hf6
          clear hz6 hf6
          go_wp2_with fail
          (try simp only [Exit.inBlock, Exit.then]); refine bodyPost_ret (results_tmp4 rfl _ _ _) rfl ?_
          refine HQ0.out _ _ ⟨z6, by rw [← HCO.out, HCP.out]; rfl, by rw [HStt.out]; have := HZ6.out; rw [Vl_rev] at this; simpa using this, HRW.out.chg HK5.out (fun o f => by have := hS.out.fp _ _ f; omega), HKW.out.then HK5.out (fun x o hx f => by have := hS.out.fp x o f; omega), fun x o f => hS.out.fp x o (HF6.out x o f)⟩
      · have ti0 : decide ((0 : Int) < (i : Int)) = true := decide_eq_true (by omega)
        obtain ⟨K, hK⟩ : ∃ K, K = 16 - i := ⟨_, rfl⟩
        have eK : (16 : Int) - (i : Int) = (K : Int) := by omega
        have hK15 : K ≤ 15 := by omega
        have hK0 : 0 < K := by omega
        obtain ⟨P0, hP0⟩ : ∃ P0, P0 = 16 ^ K % WB := ⟨_, rfl⟩
        have hp1 : P0 = 16 ^ K := by
          rw [hP0]
          have h1 : (16 : Nat) ^ K ≤ 16 ^ 15 := Nat.pow_le_pow_right (by decide) hK15
          exact Nat.mod_eq_of_lt (Nat.lt_of_le_of_lt h1 (by decide))
        have hpw := pow_ok 16 K wr (by decide) (by omega)
        rw [← hP0] at hpw
        have HPW := Lib.hid hpw
        obtain ⟨T0, hT0⟩ : ∃ T0, T0 = di * P0 := ⟨_, rfl⟩
        have hT0w : T0 < WB := by
          rw [hT0, hp1]
          have h1 : (16 : Nat) ^ i * 16 ^ K = WB := by rw [← Nat.pow_add, show i + K = 16 by omega]; decide
          rw [← h1]
          exact Nat.mul_lt_mul_of_pos_right hdi (Nat.pow_pos (by decide))
        have eT : IntKind.u64.wrap ((di : Int) * (P0 : Int)) = (T0 : Int) := by
          rw [hT0, ← Int.natCast_mul, wrap_cast, Nat.mod_eq_of_lt (by rw [← hT0]; exact hT0w)]
        obtain ⟨S4, hS4⟩ : ∃ S4, S4 = K * 4 := ⟨_, rfl⟩
        have eS : (K : Int) * 4 = (S4 : Int) := by omega
        have hS4b : S4 ≤ 60 := by omega
        have hS40 : 0 < S4 := by omega
        have HAL : Hid ((hz ws * WB + T0) / 2 ^ S4 = hz ws * 16 ^ i + di) := Lib.hid (by rw [hT0, hp1, hS4]; exact end_alg16 (by omega))
        have HWL := Lib.hid hwl
        have HLT : Hid (Small (hz ws * WB + T0)) := Lib.hid (by
          have h1 := hz_lt' ws HLW.out.mem
          have h2 : hz ws * WB + WB ≤ WB ^ ws.length * WB := by rw [← Nat.succ_mul]; exact Nat.mul_le_mul_right _ h1
          rw [← Nat.pow_succ] at h2
          unfold Small
          obtain ⟨T, hT⟩ : ∃ T : Nat, T = 1000 := ⟨_, rfl⟩
          rw [← hT]
          have h3 : WB ^ (ws.length + 1) ≤ WB ^ T := Nat.pow_le_pow_right WB_pos (by omega)
          exact Nat.lt_of_lt_of_le (Nat.lt_of_lt_of_le (Nat.add_lt_add_left hT0w _) h2) h3)
        obtain ⟨X1, hX1⟩ : ∃ X1, X1 = hz ws * WB + T0 := ⟨_, rfl⟩
        rw [← hX1] at HAL HLT
        have HX1 := Lib.hid hX1
        clear hpw hP0 hp1 hT0 hS4 hK hX1
        by_cases hd : 0 ≤ dp
        · have td : decide (0 ≤ dp) = true := decide_eq_true hd
          have HCP : Hid (dq = dp - cnt) := Lib.hid (by rw [HCO.out, HStt.out]; exact if_pos hd)
          go_wp2_with fail
          refine HPW.out.mono ?_
          rintro e w5 ⟨rfl, rfl⟩
          go_wp2_with (at_builtin; refine wpList_append_num rfl km64 (.tmp 232) (.tmp 240) 85 85 149 rfl ci Tryz.underlying85 hi1 hi2 hi3 (by rw [hi4]; omega) _ ws rfl (Ls.alloc km64 HLW.out _) _ rfl [T0] (Src.one Tryz.underlying85 _ _ _ _) (by simpa using hT0w) (by simp) (by simp; omega) (by have := HKW.out.size; simp; omega) ?_; intro z3 w3 happ; obtain ⟨vs, hvs⟩ : ∃ vs, vs = ws ++ [T0] := ⟨_, rfl⟩; rw [← hvs] at happ; have hvsl : vs.length = ws.length + 1 := (by rw [hvs]; simp); have hvs0 : 0 < vs.length := (by omega); have hvsb : vs.length ≤ 127 := (by omega); obtain ⟨b, o, c, rfl, hnk, hvl⟩ := happ.ls.resolve_left (fun h => by rw [h.2] at hvs0; exact absurd hvs0 (by decide)); have HA := Lib.hid happ; have HKA := Lib.hid (((Chg.refl (Fp u0) wr).alloc _).then happ.chg (fun _ _ _ f => f)); have HRV := Lib.hid (words_reverse b o vs.length c w3 hnk.nw hvs0 (by omega)); have HNK := Lib.hid hnk; have HVL := Lib.hid hvl; have HVS := Lib.hid hvs; clear happ hnk hvl hvs hvsl)
          have hfp : ∀ x o', Fp (.slice (some ⟨b, o, none⟩) vs.length c) x o' → w.heap.size ≤ x := fun x o' f => by
            rcases HA.out.fp x o' f with f | f
            · exact hS.out.fp x o' f
            · have := HKW.out.size; simp at f; omega
          have HFP := Lib.hid hfp
          clear hfp
          refine HRV.out.mono ?_
          rintro e w5 ⟨rfl, hv5, hk5⟩
          have hk5' : Chg (Fp (.slice (some ⟨b, o, none⟩) vs.length c)) w3 w5 := hk5.mono (fun x o' _ f => ⟨f.1, f.2.1, Nat.lt_of_lt_of_le f.2.2 (Nat.add_le_add_left HNK.out.le _)⟩)
          have HK5 := Lib.hid hk5'
          have HN5 := Lib.hid (nat_norm_any _ vs.reverse w5 (ls_reverse rfl HNK.out HVL.out hv5 hk5) (by rw [List.length_reverse]; omega))
          clear hv5 hk5 hk5'
          go_wp2_with fail
          refine HN5.out.mono ?_
          rintro e w6 ⟨z6, rfl, hz6, hf6, rfl⟩
          rw [Vl_rev, HVS.out, hz_snoc, ← HX1.out] at hz6
          have HQ := Lib.hid (nat_rsh z6 z6 X1 S4 w5 hz6.ow hz6 HLT.out (by omega) (fun h => by omega) (AlB.refl hz6.ow) (by have := HKW.out.size; have := HKA.out.size; have := HK5.out.size; omega))
          have HF6 := Lib.hid hf6
          clear hz6 hf6
          go_wp2_with fail
          refine HQ.out.mono ?_
          rintro e w7 ⟨z7, rfl, hz7⟩
          have HZ7 := Lib.hid hz7
          clear hz7
          go_wp2_with fail
          (try simp only [Exit.inBlock, Exit.then]); refine bodyPost_ret (results_tmp4 rfl _ _ _) rfl ?_
          have hf6 : ∀ x o', Fp z6 x o' → w.heap.size ≤ x := fun x o' f => HFP.out x o' (HF6.out x o' f)
          have hK57 : Chg (Blk r) w w7 := ((HKW.out.then HKA.out (fun x o hx f => by have := hS.out.fp x o f; omega)).then HK5.out (fun x o hx f => by have := HFP.out x o f; omega)).then HZ7.out.chg (fun x o hx f => by have := hf6 x o f; omega)
          refine HQ0.out _ _ ⟨z7, by rw [← HCO.out, HCP.out]; rfl, by rw [HStt.out, ← HAL.out]; exact HZ7.out.nt, ((HRW.out.chg HKA.out (fun o f => by have := hS.out.fp _ _ f; omega)).chg HK5.out (fun o f => by have := HFP.out _ _ f; omega)).chg HZ7.out.chg (fun o f => by have := hf6 _ _ f; omega), hK57, fun x o f => ?_⟩
          rcases HZ7.out.fp x o f with f | f
          · exact hf6 x o f
          · have h1 := HKW.out.size; have h2 := HKA.out.size; have h3 := HK5.out.size; omega
        · have td : decide (0 ≤ dp) = false := decide_eq_false hd
          have HCP : Hid (dq = cnt) := Lib.hid (by rw [HCO.out, HStt.out]; exact if_neg hd)
          go_wp2_with fail
          refine HPW.out.mono ?_
          rintro e w5 ⟨rfl, rfl⟩
          go_wp2_with (at_builtin; refine wpList_append_num rfl km64 (.tmp 232) (.tmp 240) 85 85 149 rfl ci Tryz.underlying85 hi1 hi2 hi3 (by rw [hi4]; omega) _ ws rfl (Ls.alloc km64 HLW.out _) _ rfl [T0] (Src.one Tryz.underlying85 _ _ _ _) (by simpa using hT0w) (by simp) (by simp; omega) (by have := HKW.out.size; simp; omega) ?_; intro z3 w3 happ; obtain ⟨vs, hvs⟩ : ∃ vs, vs = ws ++ [T0] := ⟨_, rfl⟩; rw [← hvs] at happ; have hvsl : vs.length = ws.length + 1 := (by rw [hvs]; simp); have hvs0 : 0 < vs.length := (by omega); have hvsb : vs.length ≤ 127 := (by omega); obtain ⟨b, o, c, rfl, hnk, hvl⟩ := happ.ls.resolve_left (fun h => by rw [h.2] at hvs0; exact absurd hvs0 (by decide)); have HA := Lib.hid happ; have HKA := Lib.hid (((Chg.refl (Fp u0) wr).alloc _).then happ.chg (fun _ _ _ f => f)); have HRV := Lib.hid (words_reverse b o vs.length c w3 hnk.nw hvs0 (by omega)); have HNK := Lib.hid hnk; have HVL := Lib.hid hvl; have HVS := Lib.hid hvs; clear happ hnk hvl hvs hvsl)
          have hfp : ∀ x o', Fp (.slice (some ⟨b, o, none⟩) vs.length c) x o' → w.heap.size ≤ x := fun x o' f => by
            rcases HA.out.fp x o' f with f | f
            · exact hS.out.fp x o' f
            · have := HKW.out.size; simp at f; omega
          have HFP := Lib.hid hfp
          clear hfp
          refine HRV.out.mono ?_
          rintro e w5 ⟨rfl, hv5, hk5⟩
          have hk5' : Chg (Fp (.slice (some ⟨b, o, none⟩) vs.length c)) w3 w5 := hk5.mono (fun x o' _ f => ⟨f.1, f.2.1, Nat.lt_of_lt_of_le f.2.2 (Nat.add_le_add_left HNK.out.le _)⟩)
          have HK5 := Lib.hid hk5'
          have HN5 := Lib.hid (nat_norm_any _ vs.reverse w5 (ls_reverse rfl HNK.out HVL.out hv5 hk5) (by rw [List.length_reverse]; omega))
          clear hv5 hk5 hk5'
          go_wp2_with fail
          refine HN5.out.mono ?_
          rintro e w6 ⟨z6, rfl, hz6, hf6, rfl⟩
          rw [Vl_rev, HVS.out, hz_snoc, ← HX1.out] at hz6
          have HQ := Lib.hid (nat_rsh z6 z6 X1 S4 w5 hz6.ow hz6 HLT.out (by omega) (fun h => by omega) (AlB.refl hz6.ow) (by have := HKW.out.size; have := HKA.out.size; have := HK5.out.size; omega))
          have HF6 := Lib.hid hf6
          clear hz6 hf6
          go_wp2_with fail
          refine HQ.out.mono ?_
          rintro e w7 ⟨z7, rfl, hz7⟩
          have HZ7 := Lib.hid hz7
          clear hz7
          go_wp2_with fail
          (try simp only [Exit.inBlock, Exit.then]); refine bodyPost_ret (results_tmp4 rfl _ _ _) rfl ?_
          have hf6 : ∀ x o', Fp z6 x o' → w.heap.size ≤ x := fun x o' f => HFP.out x o' (HF6.out x o' f)
          have hK57 : Chg (Blk r) w w7 := ((HKW.out.then HKA.out (fun x o hx f => by have := hS.out.fp x o f; omega)).then HK5.out (fun x o hx f => by have := HFP.out x o f; omega)).then HZ7.out.chg (fun x o hx f => by have := hf6 x o f; omega)
          refine HQ0.out _ _ ⟨z7, by rw [← HCO.out, HCP.out]; rfl, by rw [HStt.out, ← HAL.out]; exact HZ7.out.nt, ((HRW.out.chg HKA.out (fun o f => by have := hS.out.fp _ _ f; omega)).chg HK5.out (fun o f => by have := HFP.out _ _ f; omega)).chg HZ7.out.chg (fun o f => by have := hf6 _ _ f; omega), hK57, fun x o f => ?_⟩
          rcases HZ7.out.fp x o f with f | f
          · exact hf6 x o f
          · have h1 := HKW.out.size; have h2 := HKA.out.size; have h3 := HK5.out.size; omega
set_option maxRecDepth 1000000 in
set_option maxHeartbeats 8000000 in
theorem nat_scan16 (r : Nat) (l : List Nat) (s0 M : Nat) (eo : Addr) (w : World) (hR : RdAt w r l s0) (hl : ∀ x ∈ l, x < 256) (hlen : l.length ≤ 2000)
    (hE : w.cell? ⟨0, 0, none⟩ = some (.iface 245 (.pointer (some eo)))) (h48 : l.getD s0 0 = 48) (h120 : l.getD (s0 + 1) 0 = 120) (hM : s0 + 2 + M ≤ l.length) (hg : Mnt 16 0 true (fun j => l.getD (s0 + 2 + j) 0) M)
    (hT : s0 + 2 + M = l.length ∨ (103 ≤ l.getD (s0 + 2 + M) 0 ∧ l.getD (s0 + 2 + M) 0 ≤ 122)) (hc : 0 < (StN 16 0 (fun j => l.getD (s0 + 2 + j) 0) M).1) (h17 : 17 ≤ w.heap.size) :
    Calls Tryz.prog 89 #[.slice none 0 0, .iface 133 (.pointer (some ⟨r, 0, none⟩)), .int .i64 0, .bool true] w (ScanOut 16 r l (s0 + 2 + M) (StN 16 0 (fun j => l.getD (s0 + 2 + j) 0) M) w) := by
  have hr17 := hR.2.2
  have hrs := hR.2.1.lt
  have H0 := Lib.hid (rdr_next eo r l s0 w hR hl (by omega) (by omega) hE)
  have H1 : Hid (∀ W i, RdAt W r l i → i ≤ l.length → W.cell? ⟨0, 0, none⟩ = some (.iface 245 (.pointer (some eo))) → Calls Tryz.prog 90 #[.pointer (some ⟨r, 0, none⟩)] W (CurOut eo r l i W)) := Lib.hid fun W i h1 h2 h3 => rdr_next eo r l i W h1 hl h2 (by omega) h3
  have m1 := meth_read (.pointer (some ⟨r, 0, none⟩))
  have h0r : r ≠ 0 := by omega
  have HE := Lib.hid hE
  have HG := Lib.hid hg
  have HT := Lib.hid hT
  have HC := Lib.hid hc
  have HL := Lib.hid hl
  obtain ⟨Q0, hQ0⟩ : ∃ Q0, Q0 = ScanOut 16 r l (s0 + 2 + M) (StN 16 0 (fun j => l.getD (s0 + 2 + j) 0) M) w := ⟨_, rfl⟩
  rw [← hQ0]
  have HQ0 : Hid (∀ e w', ScanOut 16 r l (s0 + 2 + M) (StN 16 0 (fun j => l.getD (s0 + 2 + j) 0) M) w e w' → Q0 e w') := Lib.hid (by rw [hQ0]; exact fun _ _ h => h)
  clear hE hg hT hc hl hR hQ0
  go_enter Tryz.func89, Tryz.ntmps89
  go_wp2_with fail
  refine H0.out.mono ?_
  rintro e w1 ⟨chv, errv, rfl, hcur, hk⟩
  have HK := Lib.hid hk
  obtain ⟨-, rfl, rfl, hR1⟩ := hcur.resolve_right (fun h => by have := h.1; omega)
  rw [h48]
  have HR1 := Lib.hid (H1.out w1 (s0 + 1) hR1 (by omega) (eof_chg HE.out hk (fun f => h0r f.symm)))
  clear hcur hk hR1
  go_wp2_with fail
  refine HR1.out.mono ?_
  rintro e w2 ⟨chv, errv, rfl, hcur, hk⟩
  have HK2 := Lib.hid (HK.out.then hk (fun _ _ _ f => f))
  obtain ⟨-, rfl, rfl, hR2⟩ := hcur.resolve_right (fun h => by have := h.1; omega)
  rw [h120]
  have HR2 := Lib.hid (H1.out w2 (s0 + 2) hR2 (by omega) (eof_chg HE.out HK2.out (fun f => h0r f.symm)))
  clear hcur hk hR2
  go_wp2_with fail
  refine HR2.out.mono ?_
  rintro e w3 ⟨chv, errv, rfl, hcur, hk⟩
  have HCur := Lib.hid hcur
  have HK3 := Lib.hid (HK2.out.then hk (fun _ _ _ f => f))
  clear hcur hk
  go_upto_region 31 with (show Code.wp _ (Code.seq (Code.region 31 _ _) _) _ _ _; exact scan_rest16 (base := 0) r l (s0 + 2) M 0 eo w HL.out hlen HE.out hM HG.out HT.out HC.out h17 hr17 hrs (.inr rfl) HCur.out HK3.out rfl HQ0.out)
end Go.Proofs.YtacfhndledcmgaaGreatDoor
