/- Lemmas for the law FnBack: nat.scan ahead of base 10. Conditions: those in each theorem; none besides. -/
import Derived.Test.YtacfhndledcmgaaGreatDoorJ22
set_option linter.unusedVariables false
set_option linter.unusedSimpArgs false
namespace Go.Proofs.YtacfhndledcmgaaGreatDoor
open Go.RowKit
/-- Where the digits in base 10 begin. -/
def Head10 (base : Nat) (fo : Bool) (l : List Nat) (s0 s c0 : Nat) : Prop :=
  (base = 10 ∧ fo = true ∧ s = s0 ∧ c0 = 0) ∨ (base = 0 ∧ s0 < l.length ∧ l.getD s0 0 ≠ 48 ∧ s = s0 ∧ c0 = 0) ∨
  (base = 0 ∧ s0 < l.length ∧ l.getD s0 0 = 48 ∧ s = s0 + 1 ∧ c0 = 1 ∧ (s0 + 1 = l.length ∨ (s0 + 1 < l.length ∧ fo = true ∧ (l.getD (s0 + 1) 0 < 66 ∨ l.getD (s0 + 1) 0 = 101))))
set_option maxRecDepth 1000000 in
set_option maxHeartbeats 8000000 in
theorem nat_scan10 (base : Nat) (fo : Bool) (r : Nat) (l : List Nat) (s0 s M c0 : Nat) (eo : Addr) (w : World) (hR : RdAt w r l s0) (hl : ∀ x ∈ l, x < 256) (hlen : l.length ≤ 2000)
    (hE : w.cell? ⟨0, 0, none⟩ = some (.iface 245 (.pointer (some eo)))) (hH : Head10 base fo l s0 s c0) (hM : s + M ≤ l.length) (hg : Mnt 10 c0 fo (fun j => l.getD (s + j) 0) M)
    (hT : s + M = l.length ∨ (97 ≤ l.getD (s + M) 0 ∧ l.getD (s + M) 0 ≤ 122)) (hc : 0 < (StN 10 c0 (fun j => l.getD (s + j) 0) M).1) (h17 : 17 ≤ w.heap.size) :
    Calls Tryz.prog 89 #[.slice none 0 0, .iface 133 (.pointer (some ⟨r, 0, none⟩)), .int .i64 base, .bool fo] w (ScanOut 10 r l (s + M) (StN 10 c0 (fun j => l.getD (s + j) 0) M) w) := by
  have hs0 : s0 ≤ l.length := by rcases hH with ⟨_, _, h, _⟩ | ⟨_, h, _⟩ | ⟨_, h, _⟩ <;> omega
  have hr17 := hR.2.2
  have hrs := hR.2.1.lt
  have H0 := Lib.hid (rdr_next eo r l s0 w hR hl hs0 (by omega) hE)
  have H1 : Hid (∀ W i, RdAt W r l i → i ≤ l.length → W.cell? ⟨0, 0, none⟩ = some (.iface 245 (.pointer (some eo))) → Calls Tryz.prog 90 #[.pointer (some ⟨r, 0, none⟩)] W (CurOut eo r l i W)) := Lib.hid fun W i h1 h2 h3 => rdr_next eo r l i W h1 hl h2 (by omega) h3
  have m1 := meth_read (.pointer (some ⟨r, 0, none⟩))
  have h0r : r ≠ 0 := by omega
  have HE := Lib.hid hE
  have HG := Lib.hid hg
  have HT := Lib.hid hT
  have HC := Lib.hid hc
  have HL := Lib.hid hl
  have HH := Lib.hid hH
  obtain ⟨Q0, hQ0⟩ : ∃ Q0, Q0 = ScanOut 10 r l (s + M) (StN 10 c0 (fun j => l.getD (s + j) 0) M) w := ⟨_, rfl⟩
  rw [← hQ0]
  have HQ0 : Hid (∀ e w', ScanOut 10 r l (s + M) (StN 10 c0 (fun j => l.getD (s + j) 0) M) w e w' → Q0 e w') := Lib.hid (by rw [hQ0]; exact fun _ _ h => h)
  clear hE hg hT hc hl hR hH hQ0
  rcases HH.out with ⟨rfl, rfl, rfl, rfl⟩ | ⟨rfl, hlt, hne, rfl, rfl⟩ | ⟨rfl, hlt, h48, rfl, rfl, ho⟩
  · go_enter Tryz.func89, Tryz.ntmps89
    go_upto_if 8 with fail
    refine H0.out.mono ?_
    rintro e w1 ⟨chv, errv, rfl, hcur, hk⟩
    have HCur := Lib.hid hcur
    have HK := Lib.hid hk
    clear hcur hk
    go_upto_region 31 with (show Code.wp _ (Code.seq (Code.region 31 _ _) _) _ _ _; exact scan_rest10 (base := 10) r l s M 0 eo w HL.out hlen HE.out hM HG.out HT.out HC.out h17 hr17 hrs (.inl rfl) HCur.out HK.out (by omega) HQ0.out)
  · cases fo
    all_goals
      go_enter Tryz.func89, Tryz.ntmps89
      go_upto_if 8 with fail
      refine H0.out.mono ?_
      rintro e w1 ⟨chv, errv, rfl, hcur, hk⟩
      have HCur := Lib.hid hcur
      have HK := Lib.hid hk
      obtain ⟨-, rfl, rfl, -⟩ := hcur.resolve_right (fun h => by have := h.1; omega)
      obtain ⟨c, hcd⟩ : ∃ c, c = l.getD s 0 := ⟨_, rfl⟩
      have hne' : c ≠ 48 := by rw [hcd]; exact hne
      rw [← hcd] at HCur ⊢
      have t48 : ((c : Int) == 48) = false := by simp; omega
      clear hcur hk hcd hne hne'
      go_upto_region 31 with (show Code.wp _ (Code.seq (Code.region 31 _ _) _) _ _ _; exact scan_rest10 (base := 0) r l s M 0 eo w HL.out hlen HE.out hM HG.out HT.out HC.out h17 hr17 hrs (.inl rfl) HCur.out HK.out (by omega) HQ0.out)
  · cases fo
    all_goals
      go_enter Tryz.func89, Tryz.ntmps89
      go_upto_if 8 with fail
      refine H0.out.mono ?_
      rintro e w1 ⟨chv, errv, rfl, hcur, hk⟩
      have HK := Lib.hid hk
      obtain ⟨-, rfl, rfl, hR1⟩ := hcur.resolve_right (fun h => by have := h.1; omega)
      rw [h48]
      have HR1 := Lib.hid (H1.out w1 (s0 + 1) hR1 (by omega) (eof_chg HE.out hk (fun f => h0r f.symm)))
      clear hcur hk hR1
      go_wp2_with fail
      refine HR1.out.mono ?_
      rintro e w2 ⟨chv, errv, rfl, hcur, hk⟩
      have HCur := Lib.hid hcur
      have HK2 := Lib.hid (HK.out.then hk (fun _ _ _ f => f))
      rcases hcur with ⟨hlt2, rfl, rfl, -⟩ | ⟨he, rfl, rfl, -⟩
      · first
        | (rcases ho with ho | ⟨-, ho, -⟩ <;> first | omega | (exact absurd ho (by decide)))
        | (obtain ⟨c, hcd⟩ : ∃ c, c = l.getD (s0 + 1) 0 := ⟨_, rfl⟩
           have hc2 := (ho.resolve_left (by omega)).2.2
           rw [← hcd] at HCur hc2 ⊢
           have u1 : ((c : Int) == 98) = false := by simp; omega
           have u2 : ((c : Int) == 66) = false := by simp; omega
           have u3 : ((c : Int) == 111) = false := by simp; omega
           have u4 : ((c : Int) == 79) = false := by simp; omega
           have u5 : ((c : Int) == 120) = false := by simp; omega
           have u6 : ((c : Int) == 88) = false := by simp; omega
           clear hcd hc2 hk ho
           go_upto_region 31 with (show Code.wp _ (Code.seq (Code.region 31 _ _) _) _ _ _; exact scan_rest10 (base := 0) r l (s0 + 1) M 1 eo w HL.out hlen HE.out hM HG.out HT.out HC.out h17 hr17 hrs (.inr rfl) HCur.out HK2.out (by omega) HQ0.out))
      · clear he hk
        go_upto_region 31 with (show Code.wp _ (Code.seq (Code.region 31 _ _) _) _ _ _; exact scan_rest10 (base := 0) r l (s0 + 1) M 1 eo w HL.out hlen HE.out hM HG.out HT.out HC.out h17 hr17 hrs (.inr rfl) HCur.out HK2.out (by omega) HQ0.out)
end Go.Proofs.YtacfhndledcmgaaGreatDoor
