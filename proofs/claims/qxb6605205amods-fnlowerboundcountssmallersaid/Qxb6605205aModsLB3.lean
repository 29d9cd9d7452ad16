/-
  ZZlowerBound; the laws FnLowerBoundCountsSmaller and FnLowerBoundBoundsOnlySaveReads.
-/
import Derived.Test.Qxb6605205aModsLB2
namespace Go.Proofs.Qxb6605205aMods
open Go.RowKit

theorem zzLower_any (a : Option Addr) (n c : Nat) (zs : List Int) (key below above : Int) (w : World) (h : Row w a n (intV .u64 zs)) (hl : zs.length = n) (hd : Dom zs below above) (hn : n ≤ 4194304)
    (hb : ∀ j, j < n → 0 ≤ zz zs j ∧ zz zs j < 18446744073709551616) (hk0 : 0 ≤ key) (hk1 : key < 18446744073709551616) (hw0 : 0 ≤ below) (hv1 : above < 18446744073709551616) :
    Calls Trym.prog 10 #[.slice a n c, .int .u64 key, .int .u64 below, .int .u64 above] w (RetLB w zs key) := by
  have HC := Hid.in (lowerBound_any a n c zs key below above w h hl hd hn hb hk0 hk1 hw0 hv1)
  clear h hl hd hb
  go_enter Trym.func10, Trym.ntmps10
  go_wp2_with fail
  refine HC.out.mono ?_
  rintro e w' ⟨⟨lo, rfl, hlb⟩, hq⟩
  have H := Hid.in hlb
  have Q := Hid.in hq
  clear hlb hq
  go_wp2
  go_ret
  exact ⟨⟨lo, rfl, H.out⟩, Q.out⟩

theorem cnt_eq {zs : List Int} {x z : Int} {lo : Nat} (h : LB zs x lo) (hz : Cnt zs x z) : z = (lo : Int) := by
  have := cnt_LB h zs.length (Nat.le_refl _)
  unfold Cnt at hz
  have := h.1
  omega

set_option maxRecDepth 100000 in
set_option maxHeartbeats 1000000 in
theorem lawCounts (a : Option Addr) (n c : Nat) (zs : List Int) (key below above : Int) (w : World) (h : Row w a n (intV .u64 zs)) (hl : zs.length = n) (m : n ≤ maxLen)
    (hb : ∀ j, j < n → 0 ≤ zz zs j ∧ zz zs j < 18446744073709551616) (hk0 : 0 ≤ key) (hk1 : key < 18446744073709551616) (hw0 : 0 ≤ below) (hv1 : above < 18446744073709551616) :
    Calls Trym.prog 3 #[.slice a n c, .int .u64 key, .int .u64 below, .int .u64 above] w (RetT w) := by
  have HL := Hid.in hl
  have HR := Hid.in h
  have HB := Hid.in hb
  have HM := Hid.in m
  have HK := Hid.in (And.intro hk0 hk1)
  have HW := Hid.in (And.intro hw0 hv1)
  clear hl h hb m hk0 hk1 hw0 hv1
  go_enter Trym.func3, Trym.ntmps3
  go_wp2_with fail
  refine (bytes7_any a n c key below above w HM.out).mono ?_
  rintro e w1 ⟨⟨x, rfl, hx⟩, hw⟩
  obtain rfl : w = w1 := hw.symm
  cases x with
  | false =>
    go_wp2
    go_ret
    exact ⟨rfl, Below.refl _ _⟩
  | true =>
    have hn1 := hx rfl
    clear hx hw
    by_cases hn2 : n ≤ 131072
    · go_wp2_with fail
      refine (lbDomain_any a n c zs below above w HR.out HL.out (by omega)).mono ?_
      rintro e w1 ⟨⟨x, rfl, hx⟩, hq⟩
      have HQ := Hid.in hq
      clear hq
      cases x with
      | false =>
        clear hx
        go_wp2
        go_ret
        exact ⟨rfl, HQ.out.below⟩
      | true =>
        have HD := Hid.in (hx.1 rfl)
        clear hx
        go_wp2_with fail
        refine (cloneKeys_any a n c zs w1 (Qu.row HR.out HQ.out) HL.out (by omega)).mono ?_
        rintro e w2 ⟨v, rfl, hown, hbel⟩
        obtain ⟨a2, c2, rfl, hrow⟩ := row_of_owns (0 : Int) hown
        have HR2 : Hid (Row w2 a2 n (intV .u64 zs)) := hrow
        have HB2 := Hid.in (below_step HQ.out.below hbel)
        clear hown hrow hbel
        go_wp2_with fail
        refine (zzLower_any a2 n c2 zs key below above w2 HR2.out HL.out HD.out (by omega) HB.out HK.out.1 HK.out.2 HW.out.1 HW.out.2).mono ?_
        rintro e w3 ⟨⟨lo, rfl, hlb⟩, hq3⟩
        have H := Hid.in hlb
        have HQ3 := Hid.in hq3.qu
        clear hlb hq3
        go_wp2_with fail
        refine (countLess_any a2 n c2 zs key w3 (Qu.row HR2.out HQ3.out) HL.out (by omega)).mono ?_
        rintro e w4 ⟨⟨z, rfl, hz⟩, hw⟩
        obtain rfl : w3 = w4 := hw.symm
        obtain rfl := cnt_eq H.out hz
        clear hz hw
        go_wp2
        go_ret
        exact ⟨rfl, below_step HB2.out HQ3.out.below⟩
    · go_wp2
      go_ret
      exact ⟨rfl, Below.refl _ _⟩
end Go.Proofs.Qxb6605205aMods
