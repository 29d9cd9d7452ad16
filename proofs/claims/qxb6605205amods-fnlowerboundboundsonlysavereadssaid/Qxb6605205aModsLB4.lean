/-
  The law FnLowerBoundBoundsOnlySaveReads.
-/
import Derived.Test.Qxb6605205aModsLB3
namespace Go.Proofs.Qxb6605205aMods
open Go.RowKit

theorem LB_unique {zs : List Int} {x : Int} {p q : Nat} (h : LB zs x p) (h' : LB zs x q) : p = q := by
  obtain ⟨a1, a2, a3⟩ := h
  obtain ⟨b1, b2, b3⟩ := h'
  by_cases c1 : p < q
  · have := b2 p c1; have := a3 p (Nat.le_refl _) (by omega); omega
  · by_cases c2 : q < p
    · have := a2 q c2; have := b3 q (Nat.le_refl _) (by omega); omega
    · omega
theorem dom_loose {zs : List Int} {lo hi : Int} {n : Nat} (h : Dom zs lo hi) (hl : zs.length = n) (hb : ∀ j, j < n → 0 ≤ zz zs j ∧ zz zs j < 18446744073709551616) : Dom zs 0 18446744073709551615 :=
  ⟨h.1, fun hp => ⟨(hb 0 (by omega)).1, by have := (hb (zs.length - 1) (by omega)).2; omega⟩⟩
theorem dom_tight {zs : List Int} {lo hi : Int} {n : Nat} (h : Dom zs lo hi) (hl : zs.length = n) {x0 x1 : Int} (h0 : x0 = zz zs 0) (h1 : x1 = zz zs (n - 1)) : Dom zs x0 x1 :=
  ⟨h.1, fun hp => ⟨by omega, by rw [hl]; omega⟩⟩

set_option maxRecDepth 100000 in
set_option maxHeartbeats 4000000 in
theorem lawBounds (a : Option Addr) (n c : Nat) (zs : List Int) (key below above : Int) (w : World) (h : Row w a n (intV .u64 zs)) (hl : zs.length = n) (m : n ≤ maxLen)
    (hb : ∀ j, j < n → 0 ≤ zz zs j ∧ zz zs j < 18446744073709551616) (hk0 : 0 ≤ key) (hk1 : key < 18446744073709551616) (hw0 : 0 ≤ below) (hv1 : above < 18446744073709551616) :
    Calls Trym.prog 4 #[.slice a n c, .int .u64 key, .int .u64 below, .int .u64 above] w (RetT w) := by
  have HL := Hid.in hl
  have HR := Hid.in h
  have HB := Hid.in hb
  have HM := Hid.in m
  have HK := Hid.in (And.intro hk0 hk1)
  have HW := Hid.in (And.intro hw0 hv1)
  clear hl h hb m hk0 hk1 hw0 hv1
  go_enter Trym.func4, Trym.ntmps4
  go_wp2_with fail
  refine (bytes12_any a n c key below above w HM.out).mono ?_
  rintro e w1 ⟨⟨x, rfl, hx⟩, hw⟩
  obtain rfl : w = w1 := hw.symm
  cases x with
  | false =>
    go_wp2
    go_ret
    exact ⟨rfl, Below.refl _ _⟩
  | true =>
    have hn1 := hx rfl
    clear hx hw
    by_cases hn2 : n ≤ 131072
    · go_wp2_with fail
      refine (lbDomain_any a n c zs below above w HR.out HL.out (by omega)).mono ?_
      rintro e w1 ⟨⟨x, rfl, hx⟩, hq⟩
      have HQ := Hid.in hq
      clear hq
      cases x with
      | false =>
        clear hx
        go_wp2
        go_ret
        exact ⟨rfl, HQ.out.below⟩
      | true =>
        have HD := Hid.in (hx.1 rfl)
        clear hx
        go_wp2_with fail
        refine (cloneKeys_any a n c zs w1 (Qu.row HR.out HQ.out) HL.out (by omega)).mono ?_
        rintro e w2 ⟨v, rfl, hown, hbel⟩
        obtain ⟨a2, c2, rfl, hrow⟩ := row_of_owns (0 : Int) hown
        have HR2 : Hid (Row w2 a2 n (intV .u64 zs)) := hrow
        have HB2 := Hid.in (below_step HQ.out.below hbel)
        clear hown hrow hbel
        go_wp2_with fail
        refine (countLess_any a2 n c2 zs key w2 HR2.out HL.out (by omega)).mono ?_
        rintro e w4 ⟨⟨z, rfl, hz⟩, hw⟩
        obtain rfl : w2 = w4 := hw.symm
        have HZ := Hid.in hz
        clear hz hw
        go_wp2_with fail
        refine (zzLower_any a2 n c2 zs key below above w2 HR2.out HL.out HD.out (by omega) HB.out HK.out.1 HK.out.2 HW.out.1 HW.out.2).mono ?_
        rintro e w3 ⟨⟨lo, rfl, hlb⟩, hq3⟩
        obtain rfl := cnt_eq hlb HZ.out
        have H := Hid.in hlb
        have HQ3 := Hid.in hq3.qu
        clear hlb hq3 HZ
        go_wp2_with fail
        refine (zzLower_any a2 n c2 zs key 0 18446744073709551615 w3 (Qu.row HR2.out HQ3.out) HL.out (dom_loose HD.out HL.out HB.out) (by omega) HB.out HK.out.1 HK.out.2 (by decide) (by decide)).mono ?_
        rintro e w5 ⟨⟨lo', rfl, hlb⟩, hq3⟩
        obtain rfl := LB_unique H.out hlb
        have HQ5 := Hid.in (HQ3.out.trans hq3.qu)
        clear hlb hq3 HQ3
        by_cases hn0 : n = 0
        · subst hn0
          go_wp2
          go_ret
          exact ⟨rfl, below_step HB2.out HQ5.out.below⟩
        · have hp : 0 < n := by omega
          have HR5 := Hid.in (Qu.row HR2.out HQ5.out)
          rcases HR5.out with h0 | ⟨b, off, rfl, hc⟩
          · exfalso; omega
          obtain ⟨x0, hx0⟩ : ∃ x, x = zz zs 0 := ⟨_, rfl⟩
          obtain ⟨x1, hx1⟩ : ∃ x, x = zz zs (n - 1) := ⟨_, rfl⟩
          have h0 : w5.cell? ⟨b, off, none⟩ = some (.int .u64 x0) := by rw [hx0]; exact hc 0 (by omega)
          have h1 : w5.cell? ⟨b, off + (n - 1), none⟩ = some (.int .u64 x1) := by rw [hx1]; exact hc (n - 1) (by omega)
          have hi1 : (0 : Int) ≤ (n : Int) - 1 := by omega
          have hi2 : (n : Int) - 1 < (n : Int) := by omega
          have HT : Hid (∀ nq, Calls Trym.prog 10 #[.slice (some ⟨b, off, none⟩) n c2, .int .u64 key, .int .u64 x0, .int .u64 x1] (w5.drewN nq) (fun e w' => e = .returned (.int .i64 (lo : Int)) ∧ ∃ m, w' = (w5.drewN nq).drewN m)) := fun nq => by
            refine (zzLower_any (some ⟨b, off, none⟩) n c2 zs key x0 x1 _ (Qu.row HR5.out ((Qu.refl _).drewN nq)) HL.out (dom_tight HD.out HL.out hx0 hx1) (by omega) HB.out HK.out.1 HK.out.2 (by rw [hx0]; exact (HB.out 0 (by omega)).1) (by rw [hx1]; exact (HB.out (n - 1) (by omega)).2)).mono ?_
            rintro e w' ⟨⟨lo', rfl, hlb⟩, hd⟩
            obtain rfl := LB_unique H.out hlb
            exact ⟨rfl, hd⟩
          clear hc hx0 hx1 hn0
          go_wp2
          go_quiet ((go_at_call 10; exact Calls.quiet_of (HT.out _)))
          go_wp2
          go_ret
          exact ⟨rfl, below_step HB2.out (HQ5.out.drewN _).below⟩
    · go_wp2
      go_ret
      exact ⟨rfl, Below.refl _ _⟩
end Go.Proofs.Qxb6605205aMods
