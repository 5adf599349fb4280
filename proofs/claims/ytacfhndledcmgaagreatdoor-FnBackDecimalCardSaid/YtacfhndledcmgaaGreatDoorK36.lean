/- Lemmas for the law FnBackDecimal: the plain law: the shortest text is read to the nearest as it was. Conditions: those in each theorem; none besides. -/
import Derived.Test.YtacfhndledcmgaaGreatDoorK34
import Derived.Test.YtacfhndledcmgaaGreatDoorK32
import Derived.Test.YtacfhndledcmgaaGreatDoorK21
import Derived.Test.YtacfhndledcmgaaGreatDoorK28
import Derived.Test.YtacfhndledcmgaaGreatDoorK31
set_option linter.unusedVariables false
set_option linter.unusedSimpArgs false
namespace Go.Proofs.YtacfhndledcmgaaGreatDoor
open Go.RowKit
theorem ext_toList (S : ByteArray) (a b : Nat) : (S.extract a b).toList = (S.toList.take b).drop a := by
  rw [ByteArray.toList_eq, ByteArray.toList_eq, ByteArray.data_extract, Array.toList_extract]
  rw [List.extract_eq_take_drop, List.drop_take]
theorem tail_ne {l : List Nat} (hl : ∀ x ∈ l, x < 256) (h4 : l.length = 4) {c : Nat} (hn : l.getD 1 0 ≠ c) (hc : c < 256) (r : List UInt8) (e : ((l.map UInt8.ofNat).take 4).drop 1 = UInt8.ofNat c :: r) : False := by
  obtain ⟨a, t, rfl⟩ : ∃ a t, l = a :: t := by
    cases l with
    | nil => simp at h4
    | cons a t => exact ⟨a, t, rfl⟩
  have h3 : t.length = 3 := by simpa using h4
  refine head_ne (l := t) (fun x hx => hl x (List.mem_cons_of_mem _ hx)) (c := c) (by simpa using hn) hc r ?_
  rw [← e, List.map_cons, List.take_succ_cons, List.drop_succ_cons, List.drop_zero, List.take_of_length_le (by rw [List.length_map]; omega)]
set_option maxRecDepth 1000000 in
set_option maxHeartbeats 8000000 in
theorem float_ParseA4 (bs b P M : Nat) (n : Bool) (N : Nat) (E : Int) (l : List Nat) (bb : Nat) (eo : Addr) (w : World) (hb : b < w.heap.size) (hl : ∀ x ∈ l, x < 256) (hlen : l.length ≤ 2000) (hL4 : l.length = 4) (hG : l.getD 0 0 = 43 ∨ l.getD 0 0 = 45) (hI : l.getD 1 0 ≠ 73 ∧ l.getD 1 0 ≠ 105)
    (hE : w.cell? ⟨0, 0, none⟩ = some (.iface 245 (.pointer (some eo)))) (hb17 : 17 ≤ b)
    (hsc : ∀ W, Chg No w W → RdAt W w.heap.size l 0 → Calls Tryz.prog 132 #[.pointer (some ⟨b, 0, none⟩), .iface 133 (.pointer (some ⟨w.heap.size, 0, none⟩)), .int .i64 bs] W (ScPostA W.heap.size b P M n N E w.heap.size l bb W)) :
    Calls Tryz.prog 82 #[.pointer (some ⟨b, 0, none⟩), .string (txt l), .int .i64 bs] w (PaPostA b P M n N E bb w) := by
  have h17 : 17 ≤ w.heap.size := by omega
  have H0 := Lib.hid (rdr_new l w h17)
  have HSc := Lib.hid hsc
  have q2 := eof_neq eo
  have HE := Lib.hid hE
  have hsz : (txt l).size = l.length := txt_size l
  have HS : Hid (∀ S : ByteArray, S = txt l → ∀ i (h : i < S.size), (S[i]'h).toNat = l.getD i 0) := Lib.hid (by rintro S rfl i h; exact txt_get h hl)
  have HL := Lib.hid hl
  obtain ⟨S, hS⟩ : ∃ S, S = txt l := ⟨_, rfl⟩
  rw [← hS] at hsz H0 ⊢
  have HSS := Lib.hid hS
  obtain ⟨g, hg⟩ : ∃ g, g = l.getD 0 0 := ⟨_, rfl⟩
  have HI : Hid (∀ h : 0 < S.size, (S[0]'h).toNat = g) := Lib.hid (by intro h; rw [hg]; exact HS.out S HSS.out 0 h)
  have hgc : g = 43 ∨ g = 45 := by rw [hg]; exact hG
  have hT : S.toList = l.map UInt8.ofNat := by rw [hS, ByteArray.toList_eq]; rfl
  have hX : ∀ (c : Nat) (r : List UInt8), c < 256 → l.getD 1 0 ≠ c → ¬ (S.extract 1 4).toList = UInt8.ofNat c :: r := fun c r hc hn e => by
    rw [ext_toList, hT] at e
    exact tail_ne hl hL4 hn hc r e
  have q3 : ¬ (S.extract 1 4).toList = [73, 110, 102] := hX 73 _ (by decide) hI.1
  have q4 : ¬ (S.extract 1 4).toList = [105, 110, 102] := hX 105 _ (by decide) hI.2
  have q5 : ((S.extract 1 4).toList == [73, 110, 102]) = false := beq_eq_false_iff_ne.2 q3
  have q6 : ((S.extract 1 4).toList == [105, 110, 102]) = false := beq_eq_false_iff_ne.2 q4
  have hS4 : S.size = 4 := by omega
  obtain ⟨L, hL⟩ : ∃ L, L = l.length := ⟨_, rfl⟩
  have HLL := Lib.hid hL
  rw [← hL] at hsz hlen hL4
  clear hsc hE hl hS hg hL HS hT hI hG hX
  subst hL4
  have hgi := HI.out (by omega)
  rcases hgc with rfl | rfl
  · go_enter Tryz.func82, Tryz.ntmps82
    go_wp2_with fail
    refine H0.out.mono ?_
    rintro e w1 ⟨rfl, hr1, hk1⟩
    have HC := Lib.hid (HSc.out w1 hk1 hr1)
    have HK1 := Lib.hid hk1
    have HRL := Lib.hid hr1.2.1.lt
    clear hr1 hk1 HSc H0
    go_wp2_with fail
    refine HC.out.mono ?_
    rintro e w2 ⟨rfl, hfx, hr2, hk2⟩
    have HFX := Lib.hid hfx
    have HK2 := Lib.hid hk2
    have hrb : w.heap.size ≠ b := by omega
    have hE2 : w2.cell? ⟨0, 0, none⟩ = some (.iface 245 (.pointer (some eo))) := eof_chg (eof_chg HE.out HK1.out (fun f => f)) hk2 (fun f => by rcases f with f | f <;> omega)
    have H9 := Lib.hid (rdr_eof w.heap.size l _ w2 hr2 hE2 (by rw [← HLL.out]; omega))
    clear hfx hr2 hk2 HC
    go_wp2_with fail
    refine H9.out.mono ?_
    rintro e w3 ⟨rfl, hr3, hk3⟩
    have HK3 := Lib.hid hk3
    have hE3 : w3.cell? ⟨0, 0, none⟩ = some (.iface 245 (.pointer (some eo))) := eof_chg hE2 hk3 (fun f => by have h : (0 : Nat) = w.heap.size := f; omega)
    clear hr3 hk3 hE2
    go_wp2_with fail
    go_ret3
    obtain ⟨ac, N', k, xb, xo, m, xc, hac, hN, hBP, hx⟩ := HFX.out
    have hs1 := HK1.out.size
    have hrl := HRL.out
    refine ⟨rfl, ⟨ac, N', k, xb, xo, m, xc, hac, hN, hBP, (hx.lower hs1).chg HK3.out (fun o h => hrb h.symm) (fun i h => ?_)⟩, ?_⟩
    · have h1 : xb = w.heap.size := h
      have := hx.own
      omega
    · refine ((HK1.out.no (S := Blk b)).then HK2.out (fun x o hx f => ?_)).then HK3.out (fun x o hx f => ?_)
      · rcases f with f | f
        · omega
        · exact f
      · have h1 : x = w.heap.size := f
        omega
  · go_enter Tryz.func82, Tryz.ntmps82
    go_wp2_with fail
    refine H0.out.mono ?_
    rintro e w1 ⟨rfl, hr1, hk1⟩
    have HC := Lib.hid (HSc.out w1 hk1 hr1)
    have HK1 := Lib.hid hk1
    have HRL := Lib.hid hr1.2.1.lt
    clear hr1 hk1 HSc H0
    go_wp2_with fail
    refine HC.out.mono ?_
    rintro e w2 ⟨rfl, hfx, hr2, hk2⟩
    have HFX := Lib.hid hfx
    have HK2 := Lib.hid hk2
    have hrb : w.heap.size ≠ b := by omega
    have hE2 : w2.cell? ⟨0, 0, none⟩ = some (.iface 245 (.pointer (some eo))) := eof_chg (eof_chg HE.out HK1.out (fun f => f)) hk2 (fun f => by rcases f with f | f <;> omega)
    have H9 := Lib.hid (rdr_eof w.heap.size l _ w2 hr2 hE2 (by rw [← HLL.out]; omega))
    clear hfx hr2 hk2 HC
    go_wp2_with fail
    refine H9.out.mono ?_
    rintro e w3 ⟨rfl, hr3, hk3⟩
    have HK3 := Lib.hid hk3
    have hE3 : w3.cell? ⟨0, 0, none⟩ = some (.iface 245 (.pointer (some eo))) := eof_chg hE2 hk3 (fun f => by have h : (0 : Nat) = w.heap.size := f; omega)
    clear hr3 hk3 hE2
    go_wp2_with fail
    go_ret3
    obtain ⟨ac, N', k, xb, xo, m, xc, hac, hN, hBP, hx⟩ := HFX.out
    have hs1 := HK1.out.size
    have hrl := HRL.out
    refine ⟨rfl, ⟨ac, N', k, xb, xo, m, xc, hac, hN, hBP, (hx.lower hs1).chg HK3.out (fun o h => hrb h.symm) (fun i h => ?_)⟩, ?_⟩
    · have h1 : xb = w.heap.size := h
      have := hx.own
      omega
    · refine ((HK1.out.no (S := Blk b)).then HK2.out (fun x o hx f => ?_)).then HK3.out (fun x o hx f => ?_)
      · rcases f with f | f
        · omega
        · exact f
      · have h1 : x = w.heap.size := f
        omega
theorem getD_60 {l : List Nat} (h : ∀ x ∈ l, x < 60) (i : Nat) : l.getD i 0 < 60 := by
  rcases Nat.lt_or_ge i l.length with h1 | h1
  · rw [gd_lt h1]; exact h _ (List.getElem_mem h1)
  · rw [gd_ge h1]; decide
/-- A text without a letter is no infinity. -/
theorem float_ParseAn (bs b P M : Nat) (n : Bool) (N : Nat) (E : Int) (l : List Nat) (bb : Nat) (eo : Addr) (w : World) (hb : b < w.heap.size) (hl : ∀ x ∈ l, x < 256) (hlen : l.length ≤ 2000) (hI : ∀ x ∈ l, x < 60)
    (hE : w.cell? ⟨0, 0, none⟩ = some (.iface 245 (.pointer (some eo)))) (hb17 : 17 ≤ b)
    (hsc : ∀ W, Chg No w W → RdAt W w.heap.size l 0 → Calls Tryz.prog 132 #[.pointer (some ⟨b, 0, none⟩), .iface 133 (.pointer (some ⟨w.heap.size, 0, none⟩)), .int .i64 bs] W (ScPostA W.heap.size b P M n N E w.heap.size l bb W)) :
    Calls Tryz.prog 82 #[.pointer (some ⟨b, 0, none⟩), .string (txt l), .int .i64 bs] w (PaPostA b P M n N E bb w) := by
  have g0 := getD_60 hI 0
  have g1 := getD_60 hI 1
  by_cases h3 : l.length = 3
  · exact float_ParseA3 bs b P M n N E l bb eo w hb hl hlen h3 ⟨by omega, by omega⟩ hE hb17 hsc
  · by_cases h4 : l.length = 4 ∧ (l.getD 0 0 = 43 ∨ l.getD 0 0 = 45)
    · exact float_ParseA4 bs b P M n N E l bb eo w hb hl hlen h4.1 h4.2 ⟨by omega, by omega⟩ hE hb17 hsc
    · exact float_ParseA bs b P M n N E l bb eo w hb hl hlen ⟨h3, fun h => ⟨fun e => h4 ⟨h, .inl e⟩, fun e => h4 ⟨h, .inr e⟩⟩⟩ hE hb17 hsc
/-- A text in base 10 whose mantissa and exponent the scan reads is parsed whole. -/
theorem parse_with10n (m0 : Nat) (E0 : Int) (b P : Nat) (n : Bool) (l : List Nat) (j e1 : Nat) (st : Nat × Nat × Int) (v : Int) (eo : Addr) (w : World) (hf : Fl w b P 0 0 0 false (.slice none 0 0) 0) (h17b : 17 ≤ b) (hP0 : 0 < P) (hP2 : P ≤ 62)
    (hl : ∀ x ∈ l, x < 256) (hlen : l.length ≤ 2000) (h0 : 0 < l.length) (hI : ∀ x ∈ l, x < 60) (hE : w.cell? ⟨0, 0, none⟩ = some (.iface 245 (.pointer (some eo)))) (hs : SignAt n l j) (hg : Glob w) (h5 : P5 w)
    (hsc : ∀ W r, 17 ≤ W.heap.size → W.cell? ⟨0, 0, none⟩ = some (.iface 245 (.pointer (some eo))) → RdAt W r l j → Calls Tryz.prog 89 #[.slice none 0 0, .iface 133 (.pointer (some ⟨r, 0, none⟩)), .int .i64 10, .bool true] W (ScanOut 10 r l e1 st W))
    (hex : ∀ W r, 17 ≤ W.heap.size → W.cell? ⟨0, 0, none⟩ = some (.iface 245 (.pointer (some eo))) → RdAt W r l e1 → Calls Tryz.prog 93 #[.iface 133 (.pointer (some ⟨r, 0, none⟩)), .bool true, .bool false] W (ExpOut r l v 10 W))
    (hn1 : 2 ^ (P - 1) < m0) (hn2 : m0 < 2 ^ P) (hres : ScRes P st.2.1 ((blen st.2.1 + 63) / 64) m0 ((if cntOut st < 0 then cntOut st else 0) + v) E0)
    (hN : st.2.1 ≠ 0) (hNb : blen st.2.1 ≤ 1500) (hv1 : -2000 ≤ v) (hv2 : v ≤ 2000) (hst : st.1 ≤ 2000 ∧ -1 ≤ st.2.2 ∧ st.2.2 ≤ st.1) :
    Calls Tryz.prog 82 #[.pointer (some ⟨b, 0, none⟩), .string (txt l), .int .i64 10] w (PaPostA b P 0 n m0 E0 10 w) := by
  have hb := hf.lt
  refine float_ParseAn 10 b P 0 n _ _ l 10 eo w hb hl hlen hI hE h17b (fun W hW hR => ?_)
  have hfW := hf.chg hW (fun _ f => f)
  have hEW := eof_chg hE hW (fun f => f)
  have h17W : 17 ≤ W.heap.size := Nat.le_trans (by omega) hW.size
  have hrb : w.heap.size ≠ b := by omega
  refine float_scan10 m0 E0 10 b P 0 0 false n 0 w.heap.size l j e1 st v W hfW hP0 hP2 ?_ (fun W2 h2 hR2 => hsc W2 _ (Nat.le_trans h17W h2.size) (eof_chg hEW h2 (fun f => by rcases f with f | f <;> omega)) hR2)
    (fun W2 h2 hR2 => hex W2 _ (Nat.le_trans h17W h2.size) (eof_chg hEW h2 (fun f => by rcases f with f | f <;> omega)) hR2) (hg.no hW) (h5.chg hW (fun _ f => f)) hn1 hn2 hres hN hNb hv1 hv2 hst hrb (by omega) h17W
  have hR3 : RdAt (W.setCell ⟨b, 3, none⟩ (.int .u8 0)) w.heap.size l 0 := by
    obtain ⟨⟨g0, g1, p, g2⟩, g3, g4⟩ := hR
    exact ⟨⟨(cell_setCell_ne _ _ _ _ _ _ (.inl hrb)).trans g0, (cell_setCell_ne _ _ _ _ _ _ (.inl hrb)).trans g1, p, (cell_setCell_ne _ _ _ _ _ _ (.inl hrb)).trans g2⟩, g3.setCell _ _, g4⟩
  refine (scan_sign w.heap.size l 0 _ hR3 hl h0 (by omega)).mono ?_
  rintro e w' ⟨sb, sj, rfl, s1, s2, s3, s4, s5⟩
  rcases hs with ⟨rfl, g1, rfl⟩ | ⟨rfl, g1, g2, rfl⟩
  · obtain ⟨rfl, rfl⟩ := s1 g1
    exact ⟨rfl, s4, s5⟩
  · obtain ⟨rfl, rfl⟩ := s3 g1 g2
    exact ⟨rfl, s4, s5⟩
/-- A text in base 10 without an exponent is read. -/
theorem readsD_dg (n : Bool) (l ms : List Nat) (P : Nat) (st : Nat × Nat × Int) (m0 : Nat) (E0 : Int) (hl : l = sgn n ++ ms) (hms : ∀ x ∈ ms, x < 60) (hf : ms.getD 0 0 ≠ 45 ∧ ms.getD 0 0 ≠ 43)
    (hmlen : ms.length ≤ 1900) (hm0 : 0 < ms.length) (hg : Mnt 10 0 true (fun j => ms.getD j 0) ms.length) (hst : StN 10 0 (fun j => ms.getD j 0) ms.length = st) (hc : 0 < st.1) (hP0 : 0 < P) (hP2 : P ≤ 62)
    (hn1 : 2 ^ (P - 1) < m0) (hn2 : m0 < 2 ^ P) (hres : ScRes P st.2.1 ((blen st.2.1 + 63) / 64) m0 (if cntOut st < 0 then cntOut st else 0) E0) (hN : st.2.1 ≠ 0) (hNb : blen st.2.1 ≤ 1500) : ReadsD l P n m0 E0 := by
  intro b eo W h17 hfl hG h5 hE
  obtain ⟨s0, hs0⟩ : ∃ s0, s0 = (sgn n).length := ⟨_, rfl⟩
  have hs1 : s0 ≤ 1 := by rw [hs0]; exact sgn_len n
  have hlen : l.length = s0 + ms.length := by rw [hl, hs0]; simp
  have hlt60 : ∀ x ∈ l, x < 60 := by
    intro x hx
    rw [hl] at hx
    simp only [List.mem_append] at hx
    rcases hx with h | h
    · cases n
      · simp [sgn] at h
      · simp [sgn] at h; omega
    · exact hms x h
  have hlt : ∀ x ∈ l, x < 256 := fun x hx => Nat.lt_trans (hlt60 x hx) (by decide)
  have gms : ∀ k, k < ms.length → ms.getD k 0 = l.getD (s0 + k) 0 := fun k hk => by rw [hl, getD_app (i := k) (by omega)]
  have hst2 : StN 10 0 (fun j => l.getD (s0 + j) 0) ms.length = st := by rw [← hst]; exact (StN_congr (fun k hk => gms k hk)).symm
  have hg2 : Mnt 10 0 true (fun j => l.getD (s0 + j) 0) ms.length := Mnt_congr (fun k hk => gms k hk) hg
  have hcnt := StN_cnt 10 0 (fun j => ms.getD j 0) ms.length
  rw [hst] at hcnt
  have hfl1 : l.getD s0 0 ≠ 45 ∧ l.getD s0 0 ≠ 43 := by have := gms 0 hm0; rw [Nat.add_zero] at this; rw [← this]; exact hf
  have hsA : SignAt n l s0 := by
    cases n
    · obtain rfl : s0 = 0 := hs0
      exact .inr ⟨rfl, hfl1.1, hfl1.2, rfl⟩
    · obtain rfl : s0 = 1 := hs0
      exact .inl ⟨rfl, by rw [hl]; rfl, rfl⟩
  refine parse_with10n m0 E0 b P n l s0 l.length st 0 eo W hfl h17 hP0 hP2 hlt (by omega) (by omega) hlt60 hE hsA hG h5 (fun W r h1 h2 h3 => ?_) (fun W r h1 h2 h3 => ?_) hn1 hn2 (by rw [Int.add_zero]; exact hres) hN hNb (by decide) (by decide) ⟨by omega, hcnt.2.2.1, hcnt.2.2.2⟩
  · have := nat_scan10 10 true r l s0 s0 ms.length 0 eo W h3 hlt (by omega) h2 (.inl ⟨rfl, rfl, rfl, rfl⟩) (by omega) hg2 (.inl hlen.symm) (by rw [hst2]; exact hc) h1
    rw [hst2, ← hlen] at this
    exact this
  · exact scan_exp_none false r l eo W h3 hlt (by omega) h2
/-- N by 10 to e lies within half a unit of m0, a unit being 2 by 2 to t. -/
def Half (m0 N : Nat) (t e : Int) : Prop := dQ t e (2 * m0 - 1) ≤ dP t e N ∧ dP t e N ≤ dQ t e (2 * m0 + 1) ∧ (m0 % 2 = 1 → dQ t e (2 * m0 - 1) < dP t e N ∧ dP t e N < dQ t e (2 * m0 + 1))
/-- The same on another scale that is fine enough. -/
theorem Half.bnd {N m0 A B u v : Nat} {t e : Int} (h : Half m0 N t e) (hB : 0 < B) (hA : A * 10 ^ (-e).toNat * 2 ^ u = N * 10 ^ e.toNat * B * 2 ^ v) (hbig : (2 * m0 + 1) * B < A) : ∃ k : Nat, (k : Int) = t + v - u ∧ Bnd m0 A k B := by
  obtain ⟨hl, hu, hs⟩ := h
  unfold dP dQ at hl hu hs
  have hT := ten_pos (-e).toNat
  obtain ⟨tp, htp⟩ : ∃ tp, tp = t.toNat := ⟨_, rfl⟩
  obtain ⟨tn, htn⟩ : ∃ tn, tn = (-t).toNat := ⟨_, rfl⟩
  rw [← htp, ← htn] at hl hu hs
  generalize 10 ^ e.toNat = a at *
  generalize 10 ^ (-e).toNat = T at *
  have hC : 0 < B * 2 ^ v := Nat.mul_pos hB (Nat.two_pow_pos _)
  have eA : A * (T * 2 ^ u * 2 ^ tn) = N * a * 2 ^ tn * (B * 2 ^ v) := by
    rw [show A * (T * 2 ^ u * 2 ^ tn) = A * T * 2 ^ u * 2 ^ tn by grind, hA]; grind
  have hS : 0 < T * 2 ^ u * 2 ^ tn := Nat.mul_pos (Nat.mul_pos hT (Nat.two_pow_pos _)) (Nat.two_pow_pos _)
  have hk0 : u + tn ≤ tp + v := by
    rcases Nat.lt_or_ge (tp + v) (u + tn) with hlt | hge
    · exfalso
      have c1 : A * (T * 2 ^ u * 2 ^ tn) ≤ (2 * m0 + 1) * 2 ^ tp * T * (B * 2 ^ v) := by rw [eA]; exact Nat.mul_le_mul_right _ hu
      have c2 : (2 * m0 + 1) * 2 ^ tp * T * (B * 2 ^ v) = (2 * m0 + 1) * B * T * 2 ^ (tp + v) := by rw [Nat.pow_add]; grind
      have c3 : (2 * m0 + 1) * B * T * 2 ^ (tp + v) ≤ (2 * m0 + 1) * B * T * 2 ^ (u + tn) := Nat.mul_le_mul_left _ (Nat.pow_le_pow_right (by decide) (Nat.le_of_lt hlt))
      have c4 : (2 * m0 + 1) * B * T * 2 ^ (u + tn) = (2 * m0 + 1) * B * (T * 2 ^ u * 2 ^ tn) := by rw [Nat.pow_add]; grind
      rw [c2] at c1
      rw [c4] at c3
      have := Nat.le_of_mul_le_mul_right (Nat.le_trans c1 c3) hS
      omega
    · exact hge
  obtain ⟨k, hk⟩ : ∃ k : Nat, (k : Int) = t + v - u := ⟨(t + v - u).toNat, by omega⟩
  have hx : k + u + tn = tp + v := by omega
  have eK : ∀ K, K * 2 ^ k * B * (T * 2 ^ u * 2 ^ tn) = K * 2 ^ tp * T * (B * 2 ^ v) := fun K => by
    have e1 : K * 2 ^ k * B * (T * 2 ^ u * 2 ^ tn) = K * T * B * 2 ^ (k + u + tn) := by rw [Nat.pow_add, Nat.pow_add]; grind
    rw [e1, hx, Nat.pow_add]; grind
  refine ⟨k, hk, ?_, ?_, fun ho => ⟨?_, ?_⟩⟩
  · apply Nat.le_of_mul_le_mul_right _ hS
    rw [eA, eK]; exact Nat.mul_le_mul_right _ hl
  · apply Nat.le_of_mul_le_mul_right _ hS
    rw [eA, eK]; exact Nat.mul_le_mul_right _ hu
  · apply Nat.lt_of_mul_lt_mul_right (a := T * 2 ^ u * 2 ^ tn)
    rw [eA, eK]; exact Nat.mul_lt_mul_of_pos_right (hs ho).1 hC
  · apply Nat.lt_of_mul_lt_mul_right (a := T * 2 ^ u * 2 ^ tn)
    rw [eA, eK]; exact Nat.mul_lt_mul_of_pos_right (hs ho).2 hC
theorem five_blen {a : Nat} (h : a ≤ 27) : 5 ^ a ≠ 0 ∧ blen (5 ^ a) ≤ 64 := by
  have h0 : 5 ^ a ≠ 0 := Nat.ne_of_gt (Nat.pow_pos (by decide))
  refine ⟨h0, blen_le h0 (Nat.lt_of_le_of_lt (Nat.pow_le_pow_right (by decide) h) (by decide))⟩
theorem two_m0 {m0 P : Nat} (hP : P ≤ 40) (h2 : m0 < 2 ^ P) : 2 * m0 + 1 < 2 ^ 41 := by
  have : 2 ^ P ≤ 2 ^ 40 := Nat.pow_le_pow_right (by decide) hP
  have h3 : (2 : Nat) ^ 41 = 2 * 2 ^ 40 := by decide
  omega
/-- A whole number is read without scaling. -/
theorem Half.whole {N m0 P mw : Nat} {t e : Int} (h : Half m0 N t e) (hP0 : 0 < P) (hP : P ≤ 40) (h1 : 2 ^ (P - 1) < m0) (h2 : m0 < 2 ^ P) (hN : N ≠ 0) (he : 0 ≤ e) (hm0 : 0 < mw) (hmw : blen (N * 10 ^ e.toNat) ≤ 64 * mw) : ScRes P (N * 10 ^ e.toNat) mw m0 0 (t + 1) := by
  left
  have hN' : N * 10 ^ e.toNat ≠ 0 := Nat.mul_ne_zero hN (Nat.ne_of_gt (ten_pos _))
  have hu := upTo_ge hN' hmw
  have h41 : 2 ^ 41 ≤ 2 ^ (64 * mw - 1) := Nat.pow_le_pow_right (by decide) (by omega)
  have hm := two_m0 hP h2
  have heq : (-e).toNat = 0 := by omega
  obtain ⟨k, hk, hb⟩ := h.bnd (A := upTo (N * 10 ^ e.toNat) mw) (B := 1) (u := 0) (v := 64 * mw - blen (N * 10 ^ e.toNat)) (by decide) (by rw [heq]; unfold upTo; simp) (by omega)
  have hl := hb.len (by decide) hP0 h1 h2
  rw [Nat.div_one, blen_upTo hN' hm0 hmw] at hl
  refine ⟨rfl, by omega, k, hb⟩
theorem Half.scaled {N m0 P : Nat} {t e : Int} (h : Half m0 N t e) (hP0 : 0 < P) (hP : P ≤ 40) (h1 : 2 ^ (P - 1) < m0) (h2 : m0 < 2 ^ P) (hN : N ≠ 0) (hNb : blen N ≤ 64) (he1 : -27 ≤ e) (he2 : e ≤ 27) : ScRes P N ((blen N + 63) / 64) m0 e (t + 1) := by
  have hb1 := (blen_spec hN).1
  have hm := two_m0 hP h2
  have hmw : (blen N + 63) / 64 = 1 := by omega
  rw [hmw]
  have hu := upTo_ge (m := 1) hN (by omega)
  have h263 : (2 : Nat) ^ 41 ≤ 2 ^ (64 * 1 - 1) := by decide
  rcases Int.lt_trichotomy e 0 with hneg | rfl | hpos
  · right; left
    obtain ⟨a, ha⟩ : ∃ a, a = (-e).toNat := ⟨_, rfl⟩
    obtain ⟨f0, f1⟩ := five_blen (a := a) (by omega)
    have hB := upTo_ge (m := 1) f0 (by omega)
    have hBl := upTo_lt (m := 1) f0 (by omega)
    rw [Nat.pow_one] at hBl
    have heq : e.toNat = 0 := by omega
    obtain ⟨k, hk, hb⟩ := h.bnd (A := upTo N 1 * WB) (B := upTo (5 ^ a) 1) (u := 0) (v := 64 - blen N + a + blen (5 ^ a)) (by have := Nat.two_pow_pos (64 * 1 - 1); omega) (by
      rw [← ha, heq]
      have e1 : (10 : Nat) ^ a = 5 ^ a * 2 ^ a := by rw [← Nat.mul_pow]
      have e2 : WB = 2 ^ 64 := by decide
      unfold upTo
      simp only [e1, e2, Nat.pow_zero, Nat.mul_one]
      have e3 : N * 2 ^ (64 * 1 - blen N) * 2 ^ 64 * (5 ^ a * 2 ^ a) = N * 5 ^ a * 2 ^ ((64 - blen N) + 64 + a) := by rw [Nat.pow_add, Nat.pow_add]; grind
      have e4 : N * (5 ^ a * 2 ^ (64 * 1 - blen (5 ^ a))) * 2 ^ (64 - blen N + a + blen (5 ^ a)) = N * 5 ^ a * 2 ^ ((64 - blen (5 ^ a)) + (64 - blen N + a + blen (5 ^ a))) := by rw [Nat.pow_add 2 (64 - blen (5 ^ a))]; grind
      rw [e3, e4]; congr 2; omega) (by
      refine Nat.lt_of_lt_of_le (Nat.mul_lt_mul_of_lt_of_le' hm (Nat.le_of_lt hBl) (by have := Nat.two_pow_pos (64 * 1 - 1); omega)) (Nat.mul_le_mul_right _ (Nat.le_trans h263 hu)))
    refine ⟨hneg, he1, rfl, k, by rw [← ha]; exact hb, by rw [← ha]; omega⟩
  · have hN1 : N * 10 ^ (0 : Int).toNat = N := by simp
    have := h.whole (mw := 1) hP0 hP h1 h2 hN (by decide) (by decide) (by rw [hN1]; omega)
    rw [hN1] at this
    exact this
  · right; right
    obtain ⟨a, ha⟩ : ∃ a, a = e.toNat := ⟨_, rfl⟩
    obtain ⟨f0, f1⟩ := five_blen (a := a) (by omega)
    have hB := upTo_ge (m := 1) f0 (by omega)
    have heq : (-e).toNat = 0 := by omega
    obtain ⟨k, hk, hb⟩ := h.bnd (A := upTo N 1 * upTo (5 ^ a) 1) (B := 1) (u := a) (v := 128 - blen N - blen (5 ^ a)) (by decide) (by
      rw [← ha, heq]
      have e1 : (10 : Nat) ^ a = 5 ^ a * 2 ^ a := by rw [← Nat.mul_pow]
      unfold upTo
      rw [e1, Nat.pow_zero, Nat.mul_one (N * (5 ^ a * 2 ^ a)), Nat.mul_one (_ * _)]
      have e3 : N * 2 ^ (64 * 1 - blen N) * (5 ^ a * 2 ^ (64 * 1 - blen (5 ^ a))) * 2 ^ a = N * 5 ^ a * 2 ^ ((64 - blen N) + (64 - blen (5 ^ a)) + a) := by rw [Nat.pow_add, Nat.pow_add]; grind
      have e4 : N * (5 ^ a * 2 ^ a) * 2 ^ (128 - blen N - blen (5 ^ a)) = N * 5 ^ a * 2 ^ (a + (128 - blen N - blen (5 ^ a))) := by rw [Nat.pow_add]; grind
      rw [e3, e4]; congr 2; omega) (by
      rw [Nat.mul_one]
      refine Nat.lt_of_lt_of_le hm (Nat.le_trans h263 (Nat.le_trans hu ?_))
      exact Nat.le_mul_of_pos_right _ (by have := Nat.two_pow_pos (64 * 1 - 1); omega))
    refine ⟨hpos, he2, rfl, k, by rw [← ha]; exact hb, by rw [← ha]; omega⟩
/-- How large the shortest decimal of at most 40 bits is. -/
theorem ShFin.small {m0 N k P : Nat} {t e : Int} {inc : Prop} (h : ShFin (2 * m0) t inc N (k + 1) e) (hk1 : 10 ^ k ≤ N) (hk2 : N < 10 ^ (k + 1)) (hP0 : 0 < P) (hP : P ≤ 40) (h1 : 2 ^ (P - 1) < m0) (h2 : m0 < 2 ^ P) (ht1 : -29 - (P : Int) ≤ t) (ht2 : t ≤ 29) : k ≤ 13 ∧ N < 10 ^ 14 ∧ -22 ≤ e ∧ e ≤ 21 := by
  obtain ⟨p1, p2, -, p4⟩ := h
  have h40 : 2 ^ P ≤ 2 ^ 40 := Nat.pow_le_pow_right (by decide) hP
  have hPP : 2 ^ P = 2 * 2 ^ (P - 1) := by rw [Nat.mul_comm, ← Nat.pow_succ]; congr 1; omega
  have hN : N < 10 ^ 14 := by
    by_cases hk : k = 0
    · subst hk
      exact Nat.lt_of_lt_of_le hk2 (Nat.pow_le_pow_right (by decide) (by decide))
    · obtain ⟨q1, q2⟩ := p4 (by omega)
      unfold dP dQ at q1 q2
      have ha : 0 < 2 ^ t.toNat * 10 ^ (-(e + 1)).toNat := Nat.mul_pos (Nat.two_pow_pos _) (ten_pos _)
      rw [Nat.mul_assoc, Nat.mul_assoc] at q1 q2
      generalize 10 ^ (e + 1).toNat * 2 ^ (-t).toNat = a at *
      generalize 2 ^ t.toNat * 10 ^ (-(e + 1)).toNat = b at *
      obtain ⟨K, hK⟩ : ∃ K, 2 * m0 = K + 1 := ⟨2 * m0 - 1, by omega⟩
      rw [hK] at q1 q2
      rw [Nat.add_sub_cancel] at q1
      rw [Nat.add_mul, Nat.add_mul, Nat.add_mul, Nat.one_mul, Nat.one_mul] at q2
      have h2 : 2 * b ≤ a := by omega
      have h3 : N / 10 * (2 * b) ≤ N / 10 * a := Nat.mul_le_mul_left _ h2
      have h4 : (N / 10 * 2) * b ≤ K * b := by rw [Nat.mul_assoc]; omega
      have h5 := Nat.le_of_mul_le_mul_right h4 ha
      have h6 : 10 * 2 ^ 40 + 10 ≤ 10 ^ 14 := by decide
      omega
  have hk3 : k ≤ 13 := by
    have : k < 14 := (Nat.pow_lt_pow_iff_right (a := 10) (by decide)).1 (Nat.lt_of_le_of_lt hk1 hN)
    omega
  have hN0 : 0 < N := Nat.lt_of_lt_of_le (ten_pos k) hk1
  refine ⟨hk3, hN, ?_, ?_⟩
  · rcases Int.lt_or_le e (-22) with hlt | hge
    · exfalso
      unfold dP dQ at p1
      rw [show e.toNat = 0 by omega, Nat.pow_zero, Nat.mul_one] at p1
      obtain ⟨j, hj⟩ : ∃ j, j = (-e).toNat := ⟨_, rfl⟩
      rw [← hj] at p1
      have c1 : 2 ^ P * 10 ^ j ≤ (2 * m0 - 1) * 2 ^ t.toNat * 10 ^ j := Nat.mul_le_mul_right _ (Nat.le_trans (by omega) (Nat.le_mul_of_pos_right _ (Nat.two_pow_pos _)))
      have c2 : N * 2 ^ (-t).toNat ≤ 10 ^ 14 * 2 ^ (29 + P) := Nat.mul_le_mul (Nat.le_of_lt hN) (Nat.pow_le_pow_right (by decide) (by omega))
      have c3 : 10 ^ 14 * 2 ^ (29 + P) = 2 ^ P * (10 ^ 14 * 2 ^ 29) := by rw [Nat.pow_add]; grind
      have c4 : 10 ^ j ≤ 10 ^ 14 * 2 ^ 29 := Nat.le_of_mul_le_mul_left (by rw [← c3]; exact Nat.le_trans c1 (Nat.le_trans p1 c2)) (Nat.two_pow_pos P)
      have c5 : (10 : Nat) ^ 23 ≤ 10 ^ j := Nat.pow_le_pow_right (by decide) (by omega)
      have c6 : (10 : Nat) ^ 14 * 2 ^ 29 < 10 ^ 23 := by decide
      omega
    · exact hge
  · rcases Int.lt_or_le 21 e with hlt | hge
    · exfalso
      unfold dP dQ at p2
      rw [show (-e).toNat = 0 by omega, Nat.pow_zero, Nat.mul_one] at p2
      obtain ⟨j, hj⟩ : ∃ j, j = e.toNat := ⟨_, rfl⟩
      rw [← hj] at p2
      have c1 : 1 * 10 ^ j * 1 ≤ N * 10 ^ j * 2 ^ (-t).toNat := Nat.mul_le_mul (Nat.mul_le_mul_right _ hN0) (Nat.two_pow_pos _)
      have c2 : (2 * m0 + 1) * 2 ^ t.toNat ≤ 2 ^ 41 * 2 ^ 29 := Nat.mul_le_mul (Nat.le_of_lt (two_m0 hP h2)) (Nat.pow_le_pow_right (by decide) (by omega))
      have c5 : (10 : Nat) ^ 22 ≤ 10 ^ j := Nat.pow_le_pow_right (by decide) (by omega)
      have c6 : (2 : Nat) ^ 41 * 2 ^ 29 < 10 ^ 22 := by decide
      omega
    · exact hge
/-- The figure at a place, 0 where there is none. -/
def gI (ds : List Nat) (i : Int) : Nat := if i < 0 then 0 else ds.getD i.toNat 0
theorem gI_lt {ds : List Nat} (hd : ∀ d ∈ ds, d < 10) (i : Int) : gI ds i < 10 := by
  unfold gI
  split
  · decide
  · exact getD_lt hd
theorem Nd_gI (ds : List Nat) (a : Nat) : ∀ n, Nd ((List.range n).map fun (j : Nat) => gI ds ((j : Int) - (a : Nat))) = Dp ds (n - a)
  | 0 => by rw [Nat.zero_sub, Dp_zero]; rfl
  | n + 1 => by
    rw [range_snoc, Nd_snoc, Nd_gI ds a n]
    unfold gI
    by_cases h : n < a
    · rw [if_pos (by omega), show n - a = 0 by omega, show n + 1 - a = 0 by omega, Dp_zero]
    · rw [if_neg (by omega), show n + 1 - a = (n - a) + 1 by omega, Dp_succ]
      congr 2; omega
theorem Nd_zero_cons (l : List Nat) : Nd (0 :: l) = Nd l := rfl
/-- A mantissa of a text: figures G, the point behind i of them. -/
def ptTx (G : List Nat) (i k : Nat) : List Nat := asc (G.take i) ++ if 0 < k then 46 :: asc (G.drop i) else []
theorem ptTx_len {G : List Nat} {i k : Nat} (h : G.length = i + k) : (ptTx G i k).length = if 0 < k then i + k + 1 else i := by
  unfold ptTx
  split
  · simp [asc]; omega
  · simp [asc]; omega
theorem ptTx_lt60 {G : List Nat} {i k : Nat} (hd : ∀ d ∈ G, d < 10) : ∀ x ∈ ptTx G i k, x < 60 := by
  have ha : ∀ l : List Nat, (∀ d ∈ l, d < 10) → ∀ x ∈ asc l, x < 60 := fun l hl x hx => by
    obtain ⟨d, h1, rfl⟩ := (by simpa [asc] using hx : ∃ d ∈ l, 48 + d = x)
    have := hl d h1; omega
  intro x hx
  unfold ptTx at hx
  rcases List.mem_append.1 hx with h | h
  · exact ha _ (fun d hd' => hd d (List.mem_of_mem_take hd')) x h
  · split at h
    · rcases List.mem_cons.1 h with rfl | h
      · decide
      · exact ha _ (fun d hd' => hd d (List.mem_of_mem_drop hd')) x h
    · simp at h
theorem ptTx_fig {G : List Nat} {i k p : Nat} (h : G.length = i + k) (hp : p < i) : (ptTx G i k).getD p 0 = 48 + G.getD p 0 := by
  unfold ptTx
  rw [getD_app_lt (by simp [asc]; omega), asc_getD _ (by simp; omega), gd_lt (by simp; omega), List.getElem_take, ← gd_lt (by omega)]
/-- Such a mantissa is read whole. -/
theorem ptTx_mnt {G : List Nat} {i k : Nat} (hd : ∀ d ∈ G, d < 10) (h : G.length = i + k) :
    Mnt 10 0 true (fun j => (ptTx G i k).getD j 0) (ptTx G i k).length ∧ ∃ q : Int, StN 10 0 (fun j => (ptTx G i k).getD j 0) (ptTx G i k).length = (G.length, Nd G, q) ∧ (if cntOut (G.length, Nd G, q) < 0 then cntOut (G.length, Nd G, q) else 0) = -(k : Int) := by
  rw [ptTx_len h]
  by_cases hk : 0 < k
  · rw [if_pos hk]
    have hl : (asc (G.take i)).length = i := by simp [asc]; omega
    have e1 : ∀ p, (ptTx G i k).getD (i + p) 0 = (46 :: asc (G.drop i)).getD p 0 := fun p => by
      unfold ptTx
      rw [if_pos hk, getD_app_ge (by omega), hl]; congr 1; omega
    obtain ⟨a1, a2⟩ := mnt_pt (ds := G) (ch := fun j => (ptTx G i k).getD j 0) (i := i) (k := k) hd h (fun p hp => ptTx_fig h hp) (e1 0) (fun p hp => by
      show (ptTx G i k).getD (i + 1 + p) 0 = _
      rw [show i + 1 + p = i + (p + 1) by omega, e1]
      show (asc (G.drop i)).getD p 0 = _
      rw [asc_getD _ (by simp; omega), gd_lt (by simp; omega), List.getElem_drop, ← gd_lt (by omega)])
    rw [h] at a1 a2 ⊢
    refine ⟨a1, (i : Int), a2, ?_⟩
    unfold cntOut
    simp only
    rw [if_pos (by omega), if_pos (by omega)]; omega
  · rw [if_neg hk]
    obtain rfl : k = 0 := by omega
    obtain ⟨a1, a2⟩ := mnt_b (ds := G) (ch := fun j => (ptTx G i 0).getD j 0) hd (fun p hp => ptTx_fig h (by omega))
    rw [h, Nat.add_zero] at a1 a2 ⊢
    refine ⟨a1, -1, a2, ?_⟩
    unfold cntOut
    simp only
    rw [if_neg (by omega)]; rfl
theorem take_range_map (f : Nat → Nat) (i k : Nat) : ((List.range (i + k)).map f).take i = (List.range i).map f := by
  apply List.ext_getElem
  · simp
  · intro j h1 h2
    simp
theorem drop_range_map (f : Nat → Nat) (i k : Nat) : ((List.range (i + k)).map f).drop i = (List.range k).map fun j => f (i + j) := by
  apply List.ext_getElem
  · simp
  · intro j h1 h2
    simp
theorem fTx_form {ds : List Nat} {x : Int} (h0 : 0 < ds.length) (hd : ∀ d ∈ ds, d < 10) : ∃ (G : List Nat) (i k : Nat), fTx ds x = ptTx G i k ∧ G.length = i + k ∧ 0 < i ∧ (∀ d ∈ G, d < 10) ∧ Nd G = Nd ds * 10 ^ (x - (ds.length : Int)).toNat ∧ k = ((ds.length : Int) - x).toNat ∧ (i = x.toNat ∨ (i = 1 ∧ x ≤ 0)) := by
  obtain ⟨k, hk⟩ : ∃ k, k = ((ds.length : Int) - x).toNat := ⟨_, rfl⟩
  unfold fTx
  rw [← hk]
  by_cases hx : 0 < x
  · obtain ⟨i, rfl⟩ : ∃ i : Nat, x = (i : Int) := ⟨x.toNat, by omega⟩
    have hg := Nd_gI ds 0 (i + k)
    refine ⟨(List.range (i + k)).map fun (j : Nat) => gI ds ((j : Int) - (0 : Nat)), i, k, ?_, by simp, by omega, fun d hd' => ?_, ?_, rfl, .inl (by omega)⟩
    · unfold ptTx intTx fracTx
      rw [take_range_map, drop_range_map, if_pos hx, Int.toNat_natCast]
      congr 1
      · simp [asc, atD, gI]
      · by_cases h : 0 < k
        · rw [if_pos h, if_pos h]
          congr 1
          simp [asc, atD, gI]
        · rw [if_neg h, if_neg h]
    · obtain ⟨j, -, rfl⟩ := List.mem_map.1 hd'
      exact gI_lt hd _
    · rw [hg, Nat.sub_zero, Dp_ge _ (by omega)]; congr 2; omega
  · obtain ⟨a, ha⟩ : ∃ a : Nat, x = -(a : Int) := ⟨(-x).toNat, by omega⟩
    have hg := Nd_gI ds a k
    refine ⟨0 :: (List.range k).map fun (j : Nat) => gI ds ((j : Int) - (a : Nat)), 1, k, ?_, by simp; omega, by omega, fun d hd' => ?_, ?_, rfl, .inr ⟨rfl, by omega⟩⟩
    · unfold ptTx intTx fracTx
      rw [if_neg hx, if_pos (by omega), if_pos (by omega)]
      congr 1
      show 46 :: _ = 46 :: asc _
      congr 1
      subst ha
      unfold asc
      rw [List.drop_succ_cons, List.drop_zero, List.map_map]
      apply List.map_congr_left
      intro j _
      show atD ds (-(a : Int) + (j : Int)) = 48 + gI ds ((j : Int) - (a : Nat))
      rw [show (j : Int) - (a : Nat) = -(a : Int) + (j : Int) by omega]
      rfl
    · rcases List.mem_cons.1 hd' with rfl | hd'
      · decide
      · obtain ⟨j, -, rfl⟩ := List.mem_map.1 hd'
        exact gI_lt hd _
    · rw [Nd_zero_cons, hg, Dp_ge _ (by omega)]; congr 2; omega
theorem de_ok : ∀ a, a < 1000 → decV (asc (deOf a)) = a ∧ (∀ x ∈ asc (deOf a), 48 ≤ x ∧ x ≤ 57) ∧ asc (deOf a) ≠ [] ∧ (asc (deOf a)).length ≤ 4 := by decide +kernel
/-- The shortest text in format c, as 'roundShortest' leaves it. -/
def SdTx (c : Nat) (n : Bool) (X P : Nat) (E : Int) (l : List Nat) : Prop :=
  ∃ ds x ls xl us xu ds' x', DecPure X E ds x ∧ DecPure (X * 2 ^ (P + 1 - blen X) - 1) (E - (P + 1 - blen X : Nat)) ls xl ∧ DecPure (X * 2 ^ (P + 1 - blen X) + 1) (E - (P + 1 - blen X : Nat)) us xu ∧
    ShAll ds ls us x (X * 2 ^ (P + 1 - blen X) / 2 % 2 = 0) ds' x' ∧ l = sgn n ++ shF c ds' x'
/-- A text that is read to the nearest as X times 2 to E. -/
def SdBack (n : Bool) (P X : Nat) (E : Int) (l : List Nat) : Prop := 0 < l.length ∧ ReadsD l P n (X * 2 ^ (P - blen X)) (E + blen X - P)
theorem SdTx.back {c : Nat} {n : Bool} {X P : Nat} {E : Int} {l : List Nat} (h : SdTx c n X P E l) (hX0 : 2 ^ (blen X - 1) < X) (hbP : blen X ≤ P) (hP : P ≤ 40) (hE1 : -30 ≤ E) (hE2 : E ≤ 30) : SdBack n P X E l := by
  have hX1 : X ≠ 0 := Nat.ne_of_gt (Nat.lt_of_le_of_lt (Nat.zero_le _) hX0)
  have hb1 := (blen_spec hX1).2.2
  have hb0 : 1 ≤ blen X := (blen_spec hX1).1
  have hX2 : 2 ≤ X := by have := Nat.two_pow_pos (blen X - 1); omega
  have hP0 : 0 < P := by omega
  have hb2 : 2 ≤ blen X := by
    rcases Nat.lt_or_ge (blen X) 2 with h1 | h1
    · have h1 : blen X = 1 := by omega
      rw [h1] at hX0 hb1
      simp at hX0 hb1
      omega
    · exact h1
  obtain ⟨ds, x, ls, xl, us, xu, fs, x', a1, a2, a3, a4, rfl⟩ := h
  obtain ⟨G, hG⟩ : ∃ G, G = P + 1 - blen X := ⟨_, rfl⟩
  rw [← hG] at a2 a3 a4
  have hM4 : 4 ≤ X * 2 ^ G := by
    have h1 : 2 ^ 1 ≤ 2 ^ G := Nat.pow_le_pow_right (by decide) (by omega)
    have : 2 * 2 ≤ X * 2 ^ G := Nat.mul_le_mul hX2 (by omega)
    omega
  obtain ⟨c1, c2⟩ := short_final (a1.unshift (t := G)) a2 a3 hM4 a4
  obtain ⟨m0, hm0⟩ : ∃ m0, m0 = X * 2 ^ (P - blen X) := ⟨_, rfl⟩
  have hMM : X * 2 ^ G = 2 * m0 := by rw [hm0, hG, show P + 1 - blen X = (P - blen X) + 1 by omega, Nat.pow_succ]; grind
  have hm1 : 2 ^ (P - 1) < m0 := by
    have : 2 ^ (blen X - 1) * 2 ^ (P - blen X) < X * 2 ^ (P - blen X) := Nat.mul_lt_mul_of_pos_right hX0 (Nat.two_pow_pos _)
    rw [← Nat.pow_add, show blen X - 1 + (P - blen X) = P - 1 by omega] at this
    omega
  have hm2 : m0 < 2 ^ P := by
    have : X * 2 ^ (P - blen X) < 2 ^ blen X * 2 ^ (P - blen X) := Nat.mul_lt_mul_of_pos_right hb1 (Nat.two_pow_pos _)
    rw [← Nat.pow_add, show blen X + (P - blen X) = P by omega] at this
    omega
  obtain ⟨t, ht⟩ : ∃ t : Int, t = E - (G : Int) := ⟨_, rfl⟩
  have hE0 : E + (blen X : Int) - (P : Int) = t + 1 := by omega
  obtain ⟨k, hk⟩ : ∃ k, fs.length = k + 1 := ⟨fs.length - 1, by have := c1.1; omega⟩
  obtain ⟨e, he⟩ : ∃ e : Int, e = x' - (fs.length : Int) := ⟨_, rfl⟩
  obtain ⟨N, hN⟩ : ∃ N, N = Nd fs := ⟨_, rfl⟩
  rw [← ht, ← he, ← hN, hMM, hk] at c2
  have hn1 := Nd_ge c1.1 c1.2.1
  have hn2 := Nd_lt fs c1.2.2.2
  rw [hk, ← hN] at hn1 hn2
  rw [Nat.add_sub_cancel] at hn1
  have hN0 : N ≠ 0 := by have := ten_pos k; omega
  obtain ⟨b1, b2, b3, b4⟩ := c2.small hn1 hn2 hP0 hP hm1 hm2 (by omega) (by omega)
  have hH : Half m0 N t e := ⟨c2.1, c2.2.1, fun ho => c2.2.2.1 (by omega)⟩
  have hNb : blen N ≤ 64 := blen_le hN0 (Nat.lt_of_lt_of_le b2 (by decide))
  have hd := c1.2.2.2
  have hl0 := c1.1
  unfold SdBack
  rw [hE0, ← hm0]
  clear a1 a2 a3 a4 c2 hX0 hb1 hMM hM4 hm0
  unfold shF
  split
  · rw [hk, Nat.add_sub_cancel, eTx_eq hk]
    obtain ⟨d1, d2, d3, d4⟩ := de_ok (x' - 1).natAbs (by omega)
    obtain ⟨q1, q, q2, q3⟩ := ptTx_mnt (G := fs) (i := 1) (k := k) hd (by omega)
    have hmt : mtx fs k = ptTx fs 1 k := rfl
    have hml := ptTx_len (G := fs) (i := 1) (k := k) (by omega)
    have h60 := ptTx_lt60 (i := 1) (k := k) hd
    have hfg := ptTx_fig (G := fs) (i := 1) (k := k) (p := 0) (by omega) (by omega)
    have hml2 : (ptTx fs 1 k).length ≤ 20 ∧ 0 < (ptTx fs 1 k).length := by rw [hml]; split <;> omega
    rw [hmt]
    refine ⟨by simp [ptx]; omega, readsD_exp n _ (ptTx fs 1 k) (asc (deOf (x' - 1).natAbs)) (x' - 1) P (fs.length, Nd fs, q) m0 (t + 1) rfl (fun x hx => Nat.lt_trans (h60 x hx) (by decide)) (by rw [hfg]; omega) d2 d3 (by omega) d1 (by omega) hml2.2 q1 q2 hl0 hP0 (by omega) (by omega) (by omega) hm1 hm2 ?_ (by rw [← hN]; exact hN0) (by show blen (Nd fs) ≤ 1500; rw [← hN]; omega)⟩
    rw [q3]
    show ScRes P (Nd fs) ((blen (Nd fs) + 63) / 64) m0 (-(k : Int) + (x' - 1)) (t + 1)
    rw [show -(k : Int) + (x' - 1) = e by omega, ← hN]
    exact hH.scaled hP0 hP hm1 hm2 hN0 hNb (by omega) (by omega)
  · obtain ⟨Gs, i, k', g1, g2, g3, g4, g5, g6, g7⟩ := fTx_form (x := x') hl0 hd
    rw [g1]
    obtain ⟨q1, q, q2, q3⟩ := ptTx_mnt g4 g2
    have hml := ptTx_len g2
    have h60 := ptTx_lt60 (i := i) (k := k') g4
    have hfg := ptTx_fig (p := 0) g2 g3
    have hg0 := getD_lt (j := 0) g4
    have hml2 : (ptTx Gs i k').length ≤ 200 ∧ 0 < (ptTx Gs i k').length := by rw [hml]; split <;> omega
    rw [← he, ← hN] at g5
    have hG0 : Nd Gs ≠ 0 := by rw [g5]; exact Nat.mul_ne_zero hN0 (Nat.ne_of_gt (ten_pos _))
    have hGb : blen (Nd Gs) ≤ 200 := blen_le hG0 (by
      rw [g5]
      refine Nat.lt_of_le_of_lt (Nat.mul_le_mul (Nat.le_of_lt b2) (Nat.pow_le_pow_right (by decide) (show e.toNat ≤ 21 by omega))) (by decide))
    refine ⟨by rw [List.length_append]; omega, readsD_dg n _ (ptTx Gs i k') P (Gs.length, Nd Gs, q) m0 (t + 1) rfl h60 (by rw [hfg]; omega) (by omega) hml2.2 q1 q2 (by show 0 < Gs.length; omega) hP0 (by omega) hm1 hm2 ?_ hG0 (by show blen (Nd Gs) ≤ 1500; omega)⟩
    rw [q3]
    show ScRes P (Nd Gs) ((blen (Nd Gs) + 63) / 64) m0 (-(k' : Int)) (t + 1)
    by_cases he0 : 0 ≤ e
    · have hb := (blen_spec hG0).1
      rw [show -(k' : Int) = 0 by omega]
      rw [g5] at hb ⊢
      exact hH.whole hP0 hP hm1 hm2 hN0 he0 (by omega) (by omega)
    · rw [show e.toNat = 0 by omega, Nat.pow_zero, Nat.mul_one] at g5
      rw [show -(k' : Int) = e by omega, g5]
      exact hH.scaled hP0 hP hm1 hm2 hN0 hNb (by omega) (by omega)
set_option maxRecDepth 100000 in
set_option maxHeartbeats 4000000 in
theorem append_sg (buf : Value) (pre : List Nat) (base b P M : Nat) (n : Bool) (X : Nat) (E : Int) (xb xo m xc G MM : Nat) (t : Int) (w : World) (hb : Ls .u8 256 w buf pre) (hx : FlX w base b P M n X E xb xo m xc) (hpre : pre.length ≤ 500) (hm : m ≤ 300)
    (hE1 : -200 ≤ E) (hE2 : E ≤ 200) (hG : G = P + 1 - blen X) (ht : t = E - G) (hM : MM = X * 2 ^ G) (hX2 : 2 ≤ X) (hbP : blen X ≤ P) (hP : P ≤ 100) (hbb : ∀ y o, Fp buf y o → y ≠ b ∧ y ≠ xb) (hg : Glob w) (hSm : Small (upTo X m * 2 ^ (shOf X m E).toNat)) (hxb : ∀ ds x, DecPure (upTo X m) (shOf X m E) ds x → -800 ≤ x ∧ x ≤ 800) (hI : ∀ A, A ≠ 0 → A ≤ upTo X m * 2 ^ (shOf X m E).toNat → ItoaOk A) :
    Calls Tryz.prog 125 #[.pointer (some ⟨b, 0, none⟩), buf, .int .u8 103, .int .i64 (-1)] w fun e w' => ∃ r, e = .returned r ∧ ∃ l, ShOutC 103 (upTo X m) (shOf X m E) MM t l ∧ App .u8 256 w w' buf r (pre ++ sgn n ++ l) := by
  have h17 := hg.size
  have HMM := Lib.hid (And.intro hG (And.intro ht (And.intro hM (And.intro hX2 hbP))))
  clear hG ht hM hX2 hbP
  obtain ⟨c0, c1, c2, c3, c4, c5, c6, -, -, -, -, -⟩ := hx.fl
  have A0 := Lib.hid (App.refl hb)
  go_enter Tryz.func125, Tryz.ntmps125
  go_upto_if 16 with fail
  go_cut [1] (fun zv wx => ∃ pre', Hid (App .u8 256 w wx buf zv pre') ∧ Hid (pre' = pre ++ sgn n))
  case first =>
    cases n
    · go_wp2_with fail
      go_meet
      exact ⟨pre, A0, Lib.hid (by simp [sgn])⟩
    · go_wp2_with (refine wpList_app1 (w0 := w) (z0 := buf) (l := pre) (c := 45) rfl (.tmp 17) (.tmp 18) rfl rfl rfl A0.out (by omega) (by omega) h17 ?_; intro r w2 ha; have HA := Lib.hid ha; clear ha)
      go_meet
      exact ⟨pre ++ [45], HA, Lib.hid (by simp [sgn])⟩
  case rest =>
    obtain ⟨pre', HA, HP⟩ := hcut
    generalize wc = wa at *
    have hx1 := hx.chg HA.out.chg (fun o f => (hbb _ _ f).1 rfl) (fun o f => (hbb _ _ f).2 rfl)
    have hlt := hx1.fl.lt
    have hX0 := hx1.X0
    have hbl := blen_upTo hX0 hx1.m0 hx1.hi
    have hblX := hx1.hi
    have hblo := hx1.lo
    obtain ⟨bX, hbX⟩ : ∃ bX, bX = blen X := ⟨_, rfl⟩
    obtain ⟨bM, hbM⟩ : ∃ bM, bM = 64 * m := ⟨_, rfl⟩
    obtain ⟨sh, hsh⟩ : ∃ sh : Int, sh = (bX : Int) + E - (bM : Int) := ⟨_, rfl⟩
    have hsh2 : sh = shOf X m E := by unfold shOf; rw [hsh, hbX, hbM]
    have ib1 : bX ≤ 20000 := by omega
    have ib2 : bM ≤ 20000 := by omega
    have esh : (bX : Int) + E - (bM : Int) = sh := hsh.symm
    have ew1 : IntKind.i64.wrap ((bX : Int) + E) = (bX : Int) + E := IntWalk.i64_in _ (by omega)
    have ew2 : IntKind.i64.wrap sh = sh := IntWalk.i64_in _ (by omega)
    obtain ⟨c0, c1, c2, c3, c4, c5, c6, -, -, -, -, -⟩ := hx1.fl
    rw [← hbX] at c6
    have hgW : Glob wa := ⟨Nat.le_trans hg.size HA.out.chg.size, fun bb oo v e => (HA.out.chg.cell bb oo (Nat.lt_of_lt_of_le (gcell_lt e) hg.size) (fun f => by have := (hb.fp_lt f).2; have := gcell_lt e; omega)).trans (hg.cell bb oo v e)⟩
    have hbwc := fun y o (f : Fp buf y o) => (hb.fp_lt f).1
    have HW : Hid (∀ W, W = wa.alloc (.cells #[.slice none 0 0, .int .i64 0] 235) → (∀ j, Calls Tryz.prog 194 #[.slice (some ⟨xb, xo, none⟩) m xc] (W.drewN j) fun e w' => e = .returned (.int .i64 bM) ∧ ∃ j, w' = W.drewN j) ∧
        (∀ j, Calls Tryz.prog 193 #[.pointer (some ⟨wa.heap.size, 0, none⟩), .slice (some ⟨xb, xo, none⟩) m xc, .int .i64 sh] (W.drewN j) fun e w' => e = .returned (.tuple #[]) ∧ ∃ xb' xo' xc' ds x, DecIs w' wa.heap.size (upTo X m) sh xb' xo' xc' ds x ∧ wa.heap.size < xb' ∧ Chg No wa w')) := Lib.hid (by
      rintro W rfl
      have hk := (Chg.refl No wa).alloc (.cells #[.slice none 0 0, .int .i64 0] 235)
      have hnW := hx1.nt.chg hk (fun _ _ f => f)
      have hsmall : Small (upTo X m) := small_le hSm (Nat.le_mul_of_pos_right _ (Nat.two_pow_pos _))
      refine ⟨fun j => ?_, fun j => ?_⟩
      · have := nat_bitLen_d _ _ _ hnW.nt hsmall j
        rw [hbl, ← hbM] at this
        exact this
      · have hy0 : upTo X m ≠ 0 := by have := upTo_ge hX0 hx1.hi; have := Nat.two_pow_pos (64 * m - 1); omega
        have hs17 : 17 ≤ wa.heap.size := hgW.size
        refine (dec_init wa.heap.size xb xo m xc (upTo X m) sh ((wa.alloc (.cells #[.slice none 0 0, .int .i64 0] 235)).drewN j) (hnW.drewN j) hx1.m0 (by omega) hy0 (World.cell?_alloc_new _ _ _ _) (World.cell?_alloc_new _ _ _ _) (Plain.new _ _ _) hs17 ((hgW.no hk).drewN j) (by omega) (by omega) (by rw [hsh2]; exact hSm) (by rw [hsh2]; exact hI)).mono ?_
        rintro e w' ⟨h1, xb', xo', xc', ds, x, h2, h3, h4⟩
        refine ⟨h1, xb', xo', xc', ds, x, h2, ?_, (hk.drewN j).then h4 (fun y o hy f => ?_)⟩
        · have h5 : (wa.alloc (.cells #[.slice none 0 0, .int .i64 0] 235)).heap.size ≤ xb' := h3
          rw [hsz] at h5; omega
        · exact absurd f (Nat.ne_of_lt hy))
    have HSH := Lib.hid hsh2
    clear hbX hbM hsh hsh2 hbl hblX hX0 hblo
    go_upto_if 56 with fail
    generalize hWe : wa.alloc (.cells #[.slice none 0 0, .int .i64 0] 235) = W
    obtain ⟨H4, H3⟩ := HW.out W hWe.symm
    have H4 := Lib.hid H4
    have H3 := Lib.hid H3
    have k6 : Chg No wa W := by rw [← hWe]; exact (Chg.refl No wa).alloc _
    have d5 := (k6.cell b 5 hlt (fun f => f)).trans c5
    have d6 := (k6.cell b 6 hlt (fun f => f)).trans c6
    have d4 := (k6.cell b 4 hlt (fun f => f)).trans c4
    clear HW k6 hWe c5 c6
    go_cut [9] (fun dv wx => dv = .pointer (some ⟨wa.heap.size, 0, none⟩) ∧ ∃ (yb yo yc : Nat) (ds : List Nat) (x : Int), Hid (DecIs wx wa.heap.size (upTo X m) sh yb yo yc ds x) ∧ Hid (wa.heap.size < yb) ∧ Hid (Chg No wa wx))
    case first =>
      go_wp2_with fail
      go_region_with (first
        | (go_at_call 194; refine (H4.out _).mono ?_; rintro e w2 ⟨rfl, j, rfl⟩)
        | (go_at_call 193; (with_reducible refine (H3.out _).mono ?_); rintro e w3 ⟨rfl, yb, yo, yc, ds, x, hd1, hd2, hd3⟩; have HD1 := Lib.hid hd1; have HD2 := Lib.hid hd2; have HD3 := Lib.hid hd3; clear hd1 hd2 hd3))
      all_goals (go_wp2_with fail; go_meet; exact ⟨rfl, yb, yo, yc, ds, x, HD1, HD2, HD3⟩)
    case rest =>
      obtain ⟨rfl, yb, yo, yc, ds, x, HD1, HD2, HD3⟩ := hcut
      have hgc := hgW.no HD3.out
      have hds := HD1.out
      obtain ⟨g1, g2, g3, g4, g5, g6, g7, g8⟩ := hds
      have HAc := Lib.hid (HA.out.no HD3.out)
      have hd4 := (HD3.out.cell b 4 hlt (fun f => f)).trans c4
      have hub : ∀ y o, Fp u1 y o → y < wa.heap.size := fun y o f => (HA.out.ls.fp_lt f).1
      have hord : DOrd ds := ⟨g3, g4, g5, g1.d10⟩
      have hxc := hx1.chg HD3.out (fun _ f => f) (fun _ f => f)
      have HR := Lib.hid (dec_roundShortest _ yb yo yc ds x base b P M n X E t G MM xb xo m xc wc g1 hord g6 g7 g8 hxc hgc HMM.out.1 HMM.out.2.1 HMM.out.2.2.1 HMM.out.2.2.2.1 HMM.out.2.2.2.2 hP hE1 hE2)
      have HOrd := Lib.hid hord
      clear g1 g2 g3 g4 g5 g6 g7 g8 hord hxc
      go_wp2_with fail
      refine HR.out.mono ?_
      rintro e w5 ⟨rfl, ds', x', ls, us, xl, xu, hl1, hu1, hall, hd, hk5⟩
      have HAll := Lib.hid (And.intro hl1 (And.intro hu1 hall))
      have hbnd := hall.bnd HOrd.out
      have hsz5 := HA.out.chg.size
      have HA5 := Lib.hid (HAc.out.step hk5 (fun y o f g => by
        have := hub y o g
        rcases f with f | f
        · omega
        · have := HD2.out; omega) (fun y o hy f => by
        rcases f with f | f
        · omega
        · have := HD2.out; omega))
      have hpl : pre'.length ≤ 501 := by rw [HP.out]; cases n <;> simp [sgn] <;> omega
      obtain ⟨i1, i2, i3, i4, i5, i6, i7, i8⟩ := HD1.out
      have hxx := hxb ds x ⟨by rw [← HSH.out]; exact i2, i3, i4, i5, i1.d10, i7, i8⟩
      have hg5 : Glob w5 := hgc.chg hk5 (fun y o f => by
        rcases f with f | f
        · have := hgW.size; omega
        · have := HD2.out; have := hgW.size; omega)
      have hx5 : -1000 ≤ x' ∧ x' ≤ 1000 := by omega
      by_cases hge : x' < -3 ∨ 7 ≤ x'
      · have HSF : Hid (shF 103 ds' x' = eTx ds' x' (ds'.length - 1)) := Lib.hid (by unfold shF; rw [if_pos (.inr ⟨rfl, hge⟩)])
        have hd0 := hbnd.1.1
        obtain ⟨k, hk⟩ : ∃ k, ds'.length = k + 1 := ⟨ds'.length - 1, by omega⟩
        have HF := dec_fmtE u1 pre' k yb yo yc _ ds' x' w5 HA5.out.ls hd (by omega) (by omega) (by omega) (by omega) (by omega) (fun y o f => by have := hub y o f; have := HD2.out; omega) hbnd.1.1 hg5
        have e0 := hd.c0
        have e1 := hd.c1
        rw [hk] at HF e0
        have HF := Lib.hid HF
        have HK := Lib.hid hk
        have hkk : ((k + 1 : Nat) : Int) - 1 = (k : Int) := by omega
        have hkb : k ≤ 100000 := by omega
        have ewx : IntKind.i64.wrap (x' - 1) = x' - 1 := IntWalk.i64_in _ (by omega)
        clear hd hk5 hpl hxx hg5 i1 i2 i3 i4 i5 i6 i7 i8 hl1 hu1 hall hbnd hk hd0
        by_cases hlow : x' - 1 < -4
        · have tq1 : decide (x' - 1 < -4) = true := decide_eq_true hlow
          clear hlow hge
          go_wp2_with fail
          refine HF.out.mono ?_
          rintro e w6 ⟨r, rfl, ha⟩
          have HA6 := Lib.hid (HA5.out.trans ha)
          clear ha
          go_wp2_with fail
          go_ret
          obtain ⟨i1, i2, i3, i4, i5, i6, i7, i8⟩ := HD1.out
          refine ⟨r, rfl, _, ⟨ds, x, ls, xl, us, xu, ds', x', ⟨by rw [← HSH.out]; exact i2, i3, i4, i5, i1.d10, i7, i8⟩, HAll.out.1, HAll.out.2.1, HAll.out.2.2, rfl⟩, ?_⟩
          rw [← HP.out, HSF.out]
          rw [HK.out]; exact HA6.out
        · have tq1 : decide (x' - 1 < -4) = false := decide_eq_false hlow
          have tq2 : decide ((6 : Int) ≤ x' - 1) = true := decide_eq_true (by omega)
          clear hlow hge
          go_wp2_with fail
          refine HF.out.mono ?_
          rintro e w6 ⟨r, rfl, ha⟩
          have HA6 := Lib.hid (HA5.out.trans ha)
          clear ha
          go_wp2_with fail
          go_ret
          obtain ⟨i1, i2, i3, i4, i5, i6, i7, i8⟩ := HD1.out
          refine ⟨r, rfl, _, ⟨ds, x, ls, xl, us, xu, ds', x', ⟨by rw [← HSH.out]; exact i2, i3, i4, i5, i1.d10, i7, i8⟩, HAll.out.1, HAll.out.2.1, HAll.out.2.2, rfl⟩, ?_⟩
          rw [← HP.out, HSF.out]
          rw [HK.out]; exact HA6.out
      · have hd0 := hbnd.1.1
        have hlb : ds'.length ≤ 100000 := by omega
        have hxb2 : -1000 ≤ x' ∧ x' ≤ 1000 := by omega
        obtain ⟨k, hk⟩ : ∃ k : Nat, k = ((ds'.length : Int) - x').toNat := ⟨_, rfl⟩
        have HF := Lib.hid (dec_fmtF2 u1 pre' k yb yo yc _ ds' x' w5 HA5.out.ls hd (by omega) (by omega) (by omega) (by omega) (by omega) (fun y o f => by have := hub y o f; have := HD2.out; omega) (.inl hbnd.1.1) hg5.size)
        have e0 := hd.c0
        have e1 := hd.c1
        have HK := Lib.hid hk
        obtain ⟨L, hL⟩ : ∃ L, L = ds'.length := ⟨_, rfl⟩
        rw [← hL] at HF e0 hlb hd0
        have HL := Lib.hid hL
        have ewL : IntKind.i64.wrap ((L : Int) - x') = (L : Int) - x' := IntWalk.i64_in _ (by omega)
        have emx : max ((L : Int) - x') 0 = (k : Int) := by omega
        clear hd hk5 hpl hxx hg5 i1 i2 i3 i4 i5 i6 i7 i8 hl1 hu1 hall hbnd hk hL
        have HSF : Hid (shF 103 ds' x' = intTx ds' x' ++ fracTx ds' x' k) := Lib.hid (by unfold shF fTx; rw [if_neg (by omega), HK.out])
        have ewx : IntKind.i64.wrap (x' - 1) = x' - 1 := IntWalk.i64_in _ (by omega)
        have tq1 : decide (x' - 1 < -4) = false := decide_eq_false (by omega)
        have tq2 : decide ((6 : Int) ≤ x' - 1) = false := decide_eq_false (by omega)
        clear hge
        by_cases hlt : x' < (L : Int)
        · have tq3 : decide (x' < (L : Int)) = true := decide_eq_true hlt
          clear hlt
          go_wp2_with fail
          refine HF.out.mono ?_
          rintro e w6 ⟨r, rfl, ha⟩
          have HA6 := Lib.hid (HA5.out.trans ha)
          clear ha
          go_wp2_with fail
          go_ret
          obtain ⟨i1, i2, i3, i4, i5, i6, i7, i8⟩ := HD1.out
          refine ⟨r, rfl, _, ⟨ds, x, ls, xl, us, xu, ds', x', ⟨by rw [← HSH.out]; exact i2, i3, i4, i5, i1.d10, i7, i8⟩, HAll.out.1, HAll.out.2.1, HAll.out.2.2, rfl⟩, ?_⟩
          rw [← HP.out, HSF.out]
          rw [← List.append_assoc]; exact HA6.out
        · have tq3 : decide (x' < (L : Int)) = false := decide_eq_false hlt
          clear hlt
          go_wp2_with fail
          refine HF.out.mono ?_
          rintro e w6 ⟨r, rfl, ha⟩
          have HA6 := Lib.hid (HA5.out.trans ha)
          clear ha
          go_wp2_with fail
          go_ret
          obtain ⟨i1, i2, i3, i4, i5, i6, i7, i8⟩ := HD1.out
          refine ⟨r, rfl, _, ⟨ds, x, ls, xl, us, xu, ds', x', ⟨by rw [← HSH.out]; exact i2, i3, i4, i5, i1.d10, i7, i8⟩, HAll.out.1, HAll.out.2.1, HAll.out.2.2, rfl⟩, ?_⟩
          rw [← HP.out, HSF.out]
          rw [← List.append_assoc]; exact HA6.out
theorem appendOk_s101 (b base P M : Nat) (n : Bool) (X : Nat) (E : Int) (xb xo m xc : Nat) (hX2 : 2 ≤ X) (hbP : blen X ≤ P) (hP : P ≤ 100) (hE1 : -200 ≤ E) (hE2 : E ≤ 200) (hm0 : 0 < m) (hm1 : 64 * (m - 1) < blen X) (hm2 : blen X ≤ 64 * m) :
    AppendOkS 101 b base P M n X E xb xo m xc (SdTx 101 n X P E) := by
  intro buf pre w hb hx hpre hbb hg
  have h0 : X ≠ 0 := by omega
  have hX : X < 2 ^ 100 := Nat.lt_of_lt_of_le (blen_spec h0).2.2 (Nat.pow_le_pow_right (by decide) (by omega))
  have hXX : X < 2 ^ 200 := Nat.lt_trans hX (Nat.pow_lt_pow_right (by decide) (by decide))
  have hsz := upTo_size (m := m) (Q := 200) (E := E) h0 hXX (by clear hX hXX; omega) hm2 (by omega)
  have e1 : shOf X m E = E - ((64 * m - blen X : Nat) : Int) := by unfold shOf; omega
  have hbd : ∀ ds x, DecPure (upTo X m) (shOf X m E) ds x → -800 ≤ x ∧ x ≤ 800 := fun ds x hp => by
    rw [e1] at hp
    exact dec_bound hp.shift hXX (by omega) (by omega)
  refine (append_s buf pre b base P M n X E xb xo m xc (P + 1 - blen X) (X * 2 ^ (P + 1 - blen X)) (E - (P + 1 - blen X : Nat)) w hb hx hpre (by omega) hE1 hE2 rfl rfl rfl hX2 hbP hP hbb hg (small_words hsz (by omega)) hbd (fun A hA1 hA2 => itoaOk_small hA1 (Nat.lt_of_le_of_lt hA2 hsz))).mono ?_
  rintro e w' ⟨r, h1, l, ⟨ds, x, ls, xl, us, xu, ds', x', a1, a2, a3, a4, rfl⟩, h3⟩
  rw [e1] at a1
  refine ⟨r, h1, _, ⟨ds, x, ls, xl, us, xu, ds', x', a1.shift, a2, a3, a4, by unfold shF; rw [if_pos (.inl rfl)]⟩, by rw [← List.append_assoc]; exact h3⟩
theorem appendOk_s102 (b base P M : Nat) (n : Bool) (X : Nat) (E : Int) (xb xo m xc : Nat) (hX2 : 2 ≤ X) (hbP : blen X ≤ P) (hP : P ≤ 100) (hE1 : -200 ≤ E) (hE2 : E ≤ 200) (hm0 : 0 < m) (hm1 : 64 * (m - 1) < blen X) (hm2 : blen X ≤ 64 * m) :
    AppendOkS 102 b base P M n X E xb xo m xc (SdTx 102 n X P E) := by
  intro buf pre w hb hx hpre hbb hg
  have h0 : X ≠ 0 := by omega
  have hX : X < 2 ^ 100 := Nat.lt_of_lt_of_le (blen_spec h0).2.2 (Nat.pow_le_pow_right (by decide) (by omega))
  have hXX : X < 2 ^ 200 := Nat.lt_trans hX (Nat.pow_lt_pow_right (by decide) (by decide))
  have hsz := upTo_size (m := m) (Q := 200) (E := E) h0 hXX (by clear hX hXX; omega) hm2 (by omega)
  have e1 : shOf X m E = E - ((64 * m - blen X : Nat) : Int) := by unfold shOf; omega
  have hbd : ∀ ds x, DecPure (upTo X m) (shOf X m E) ds x → -800 ≤ x ∧ x ≤ 800 := fun ds x hp => by
    rw [e1] at hp
    exact dec_bound hp.shift hXX (by omega) (by omega)
  refine (append_sf buf pre b base P M n X E xb xo m xc (P + 1 - blen X) (X * 2 ^ (P + 1 - blen X)) (E - (P + 1 - blen X : Nat)) w hb hx hpre (by omega) hE1 hE2 rfl rfl rfl hX2 hbP hP hbb hg (small_words hsz (by omega)) hbd (fun A hA1 hA2 => itoaOk_small hA1 (Nat.lt_of_le_of_lt hA2 hsz))).mono ?_
  rintro e w' ⟨r, h1, l, ⟨ds, x, ls, xl, us, xu, ds', x', a1, a2, a3, a4, rfl⟩, h3⟩
  rw [e1] at a1
  refine ⟨r, h1, _, ⟨ds, x, ls, xl, us, xu, ds', x', a1.shift, a2, a3, a4, rfl⟩, by rw [← List.append_assoc]; exact h3⟩
theorem appendOk_s103 (b base P M : Nat) (n : Bool) (X : Nat) (E : Int) (xb xo m xc : Nat) (hX2 : 2 ≤ X) (hbP : blen X ≤ P) (hP : P ≤ 100) (hE1 : -200 ≤ E) (hE2 : E ≤ 200) (hm0 : 0 < m) (hm1 : 64 * (m - 1) < blen X) (hm2 : blen X ≤ 64 * m) :
    AppendOkS 103 b base P M n X E xb xo m xc (SdTx 103 n X P E) := by
  intro buf pre w hb hx hpre hbb hg
  have h0 : X ≠ 0 := by omega
  have hX : X < 2 ^ 100 := Nat.lt_of_lt_of_le (blen_spec h0).2.2 (Nat.pow_le_pow_right (by decide) (by omega))
  have hXX : X < 2 ^ 200 := Nat.lt_trans hX (Nat.pow_lt_pow_right (by decide) (by decide))
  have hsz := upTo_size (m := m) (Q := 200) (E := E) h0 hXX (by clear hX hXX; omega) hm2 (by omega)
  have e1 : shOf X m E = E - ((64 * m - blen X : Nat) : Int) := by unfold shOf; omega
  have hbd : ∀ ds x, DecPure (upTo X m) (shOf X m E) ds x → -800 ≤ x ∧ x ≤ 800 := fun ds x hp => by
    rw [e1] at hp
    exact dec_bound hp.shift hXX (by omega) (by omega)
  refine (append_sg buf pre b base P M n X E xb xo m xc (P + 1 - blen X) (X * 2 ^ (P + 1 - blen X)) (E - (P + 1 - blen X : Nat)) w hb hx hpre (by omega) hE1 hE2 rfl rfl rfl hX2 hbP hP hbb hg (small_words hsz (by omega)) hbd (fun A hA1 hA2 => itoaOk_small hA1 (Nat.lt_of_le_of_lt hA2 hsz))).mono ?_
  rintro e w' ⟨r, h1, l, ⟨ds, x, ls, xl, us, xu, ds', x', a1, a2, a3, a4, rfl⟩, h3⟩
  rw [e1] at a1
  refine ⟨r, h1, _, ⟨ds, x, ls, xl, us, xu, ds', x', a1.shift, a2, a3, a4, rfl⟩, by rw [← List.append_assoc]; exact h3⟩
theorem AppendOkS.imp {c base b P M : Nat} {n : Bool} {X : Nat} {E : Int} {xb xo m xc : Nat} {R S : List Nat → Prop} (h : AppendOkS c base b P M n X E xb xo m xc R) (hi : ∀ l, R l → S l) : AppendOkS c base b P M n X E xb xo m xc S := by
  intro buf pre w h1 h2 h3 h4 h5
  refine (h buf pre w h1 h2 h3 h4 h5).mono ?_
  rintro e w' ⟨r, g1, l, g2, g3⟩
  exact ⟨r, g1, l, hi l g2, g3⟩
/-- 'impl.Text' with format e, f or g and no precision, for what the law lets in. -/
theorem text_sd (f P M : Nat) (n : Bool) (A : Option Addr) (c : Nat) (l : List Nat) (E : Int) (w : World) (hf : f = 101 ∨ f = 102 ∨ f = 103) (hr : RdU w A l) (hm : ∀ x ∈ l, x < WB) (hg : Glob w) (ho : RealOk 40 30 P M E l) (hX0 : 2 ^ (blen (Vl l) - 1) < Vl l) :
    Calls Tryz.prog 24 #[.agg #[.int .u64 P, .int .i64 M, .int .i64 1, .bool n, .slice A l.length c, .int .i64 E], .int .u8 f, .int .i64 (-1)] w (TextOut (SdBack n P (Vl l) E) w) := by
  obtain ⟨o1, o2, o3, o4, o5, o6, o7, o8, o9⟩ := ho
  have hX : Vl l < 2 ^ P := Nat.lt_of_lt_of_le (blen_spec o6).2.2 (Nat.pow_le_pow_right (by decide) o7)
  have hX2 : 2 ≤ Vl l := by have := Nat.two_pow_pos (blen (Vl l) - 1); omega
  refine impl_Text_s f P M n A c l E (SdBack n P (Vl l) E) w (by omega) hm hr (by omega) (by omega) (by omega) hX o6 (by omega) (by omega) hg (fun t ht => ht.1) (fun base b xb xo m xc g0 g1 g2 => ?_)
  rcases hf with rfl | rfl | rfl
  · exact (appendOk_s101 b base P M n (Vl l) E xb xo m xc hX2 o7 (by omega) (by omega) (by omega) g0 g1 g2).imp fun t ht => ht.back hX0 o7 o2 (by omega) (by omega)
  · exact (appendOk_s102 b base P M n (Vl l) E xb xo m xc hX2 o7 (by omega) (by omega) (by omega) g0 g1 g2).imp fun t ht => ht.back hX0 o7 o2 (by omega) (by omega)
  · exact (appendOk_s103 b base P M n (Vl l) E xb xo m xc hX2 o7 (by omega) (by omega) (by omega) g0 g1 g2).imp fun t ht => ht.back hX0 o7 o2 (by omega) (by omega)
/-- What Parse tells of a text that is read to the nearest. -/
def LPostD (P : Nat) (n : Bool) (X : Nat) (E : Int) (W : World) (e : Ending) (w' : World) : Prop :=
  ∃ A2 c2 lz ln F2, ∃ ac : Int, e = .returned (.tuple #[.agg #[.int .u64 P, .int .i64 0, .int .i64 1, .bool n, .slice A2 ln c2, .int .i64 F2], .int .i64 ac, .int .i64 10, .bool true]) ∧ ln = List.length lz ∧ (∀ m k : Nat, X = m * 2 ^ k → m % 2 = 1 → Vl lz = m ∧ F2 = E + (k : Nat)) ∧ RdU w' A2 lz ∧ List.length lz ≤ c2 ∧ CanW lz ∧ Chg No W w' ∧ (∀ ad, A2 = some ad → 0 < List.length lz → W.heap.size ≤ ad.block)
theorem parse_backD (P : Nat) (n : Bool) (X : Nat) (E : Int) (t : List Nat) (eo : Addr) (W : World) (ht : SdBack n P X E t) (hX : X ≠ 0) (hbP : blen X ≤ P) (hP0 : 0 < P) (hP2 : P ≤ 40) (hE1 : -30 ≤ E) (hE2 : E ≤ 30) (hg : Glob W) (h5 : P5 W) (hE : W.cell? ⟨0, 0, none⟩ = some (.iface 245 (.pointer (some eo)))) :
    Calls Tryz.prog 42 #[.string (txt t), .int .i64 10, .int .u64 P, .int .i64 0] W (LPostD P n X E W) := by
  obtain ⟨-, hR⟩ := ht
  have hm0 : X * 2 ^ (P - blen X) ≠ 0 := Nat.mul_ne_zero hX (Nat.ne_of_gt (Nat.two_pow_pos _))
  have hS : SameVal (X * 2 ^ (P - blen X)) (E + blen X - P) X E := ⟨0, P - blen X, by simp, by omega⟩
  have hbl : blen (X * 2 ^ (P - blen X)) ≤ 3000 := by
    rw [Nat.mul_comm, blen_pow hX]; omega
  refine (impl_ParseA 10 P 0 n (X * 2 ^ (P - blen X)) (E + blen X - P) 10 t W hP0 (by omega) (by decide) hm0 (by omega) (by omega) hbl hg hg.size (fun W2 b h1 h2 h3 h4 => hR b eo W2 (Nat.le_trans hg.size h2) h4 (hg.no h1) (h5.chg h1 (fun _ f => f)) (eof_chg hE h1 (fun f => f)))).mono ?_
  rintro e w' ⟨A, c, l, T, O, ac, rfl, g1, g2, g3, g4, g5, g6, g7, g8⟩
  exact ⟨A, c, l, _, _, ac, rfl, rfl, fun m k hX hm => by
    obtain ⟨q1, q2⟩ := hS.odd g1 g2 m k hX hm
    exact ⟨by rw [g6, q1], q2⟩, g3, g4, g5, g7, g8⟩
end Go.Proofs.YtacfhndledcmgaaGreatDoor
