/-
  ZZWithout; the walk of FnWithoutIsSetDifference.
-/
import Derived.Test.Qxb6603923aModsRuns5
import Derived.Test.Qxb6603923aModsLawUnended
namespace Go.Proofs.Qxb6603923aMods
open Go.RowKit

set_option maxHeartbeats 1000000 in
theorem zzWithout_any (a a' : Option Addr) (n c n' c' : Nat) (ps : List (Int × Int)) (zs : List Int) (w : World) (h : PRow w a n ps) (hl : ps.length = n) (hr : IsR ps) (hb : ∀ j, j < n → pe ps j ≤ 18446744073709551615)
    (h' : Row w a' n' (intV .u64 zs)) (hl' : zs.length = n') (hr' : Asc zs) (hz : ∀ j, j < n' → 0 ≤ zz zs j) (hn : n ≤ 1048576) (hn' : n' ≤ 1048576) :
    Calls Trym.prog 12 #[.slice a n c, .slice a' n' c'] w fun e w' => ∃ out, Outer zs ps ps.length out ∧ RetP2 w 32 out.length out e w' := by
  have HH := Hid.in (And.intro h (And.intro hl (And.intro hr (And.intro hb (And.intro h' (And.intro hl' (And.intro hr' hz)))))))
  clear h hl hr hb h' hl' hr' hz
  go_enter Trym.func12, Trym.ntmps12
  go_wp2_with fail
  refine (runsOf_any a n c ps w HH.out.1 HH.out.2.1 (by omega)).mono ?_
  rintro e w1 ⟨v, rfl, hown, hb1⟩
  obtain ⟨b0, d0, rfl, hr1⟩ := prow_of_owns hown
  have HR1 := Hid.in hr1
  have HB1 := Hid.in hb1
  clear hown hr1 hb1
  go_wp2_with fail
  refine (without_any b0 a' n d0 n' c' ps zs w1 HR1.out HH.out.2.1 HH.out.2.2.1 HH.out.2.2.2.1 (HH.out.2.2.2.2.1.below (Nat.le_refl _) HB1.out) HH.out.2.2.2.2.2.1 HH.out.2.2.2.2.2.2.1 HH.out.2.2.2.2.2.2.2 hn hn').mono ?_
  rintro e w2 ⟨out, hou, v, rfl, hown, hb2⟩
  obtain ⟨b1, d1, rfl, hr2⟩ := prow_of_owns hown
  have hlen : out.length ≤ 3000000 := by have h1 := outer_len hou; have h2 := HH.out.2.1; have h3 := HH.out.2.2.2.2.2.1; omega
  have HOU := Hid.in hou
  have HR2 := Hid.in hr2
  have HB2 : Hid (Below w.heap.size w w2) := below_step HB1.out hb2
  clear hown hr2 hb2 hou
  go_wp2_with fail
  refine (pairsOf_any b1 out.length d1 out w2 HR2.out rfl (by omega)).mono ?_
  rintro e w3 ⟨v, rfl, hown, hb3⟩
  obtain ⟨b2, d2, rfl, _⟩ := prow_of_owns hown
  have HO3 := Hid.in hown
  have HB3 : Hid (Below w.heap.size w w3) := below_step HB2.out hb3
  have HS : Hid (w.heap.size ≤ w2.heap.size) := HB2.out.size
  clear hown hb3
  go_wp2
  go_ret
  exact ⟨out, HOU.out, _, rfl, owns_base HO3.out HS.out, HB3.out⟩

theorem rem_step {zs : List Int} {ps : List (Int × Int)} {j : Nat} (hp : IsR ps) {lo : Nat} (hb : AtB ps (zz zs j) lo) (hd : dB zs j = true) (h : 0 < lo ∧ zz zs j < pe ps (lo - 1)) : rem zs ps (j + 1) = rem zs ps j + 1 := by
  simp [rem, hd, (inB_search hp hb).2 h]
theorem rem_stay {zs : List Int} {ps : List (Int × Int)} {j : Nat} (hp : IsR ps) {lo : Nat} (hb : AtB ps (zz zs j) lo) (h : ¬ (0 < lo ∧ zz zs j < pe ps (lo - 1))) : rem zs ps (j + 1) = rem zs ps j := by
  have : inB ps (zz zs j) = false := by
    cases e : inB ps (zz zs j)
    · rfl
    · exact absurd ((inB_search hp hb).1 e) h
  simp [rem, this]
theorem rem_same {zs : List Int} {ps : List (Int × Int)} {j : Nat} (hj : 0 < j) (h : zz zs j = zz zs (j - 1)) : rem zs ps (j + 1) = rem zs ps j := rem_dup hj h
theorem dB_true {zs : List Int} {j : Nat} (h : j = 0 ∨ zz zs j ≠ zz zs (j - 1)) : dB zs j = true := by
  unfold dB
  rcases h with h | h <;> simp [h]
theorem wsub (a b : Int) : IntKind.u64.wrap (IntKind.u64.wrap a - b) = IntKind.u64.wrap (a - b) := by
  rw [IntKind.wrap_u64, IntKind.wrap_u64, IntKind.wrap_u64]; omega

set_option maxRecDepth 100000 in
set_option maxHeartbeats 8000000 in
theorem lawWithout (a a' : Option Addr) (n c n' c' : Nat) (ps : List (Int × Int)) (zs : List Int) (w : World) (h : PRow w a n ps) (hl : ps.length = n) (hm : n ≤ maxLen) (hb : ∀ j, j < n → pe ps j ≤ 18446744073709551615)
    (h' : Row w a' n' (intV .u64 zs)) (hl' : zs.length = n') (hm' : n' ≤ maxLen) (hz : ∀ j, j < n' → 0 ≤ zz zs j) :
    Calls Trym.prog 3 #[.slice a n c, .slice a' n' c'] w (RetT w) := by
  have HH := Hid.in (And.intro h (And.intro hl (And.intro hb (And.intro h' (And.intro hl' hz)))))
  clear h hl hb h' hl' hz
  go_enter Trym.func3, Trym.ntmps3
  go_wp2_with fail
  refine (bytes7_any a a' n c n' c' w hm hm').mono ?_
  rintro e w1 ⟨⟨x, rfl, hx⟩, hw⟩
  obtain rfl : w = w1 := hw.symm
  clear hm hm'
  cases x
  · clear hx
    go_wp2
    go_ret
    exact ⟨rfl, Below.refl _ _⟩
  obtain ⟨q, q'⟩ := hx rfl
  clear hx
  go_wp2_with fail
  all_goals try (go_ret; exact ⟨rfl, Below.refl _ _⟩; done)
  refine (isRuns_any a n c ps w HH.out.1 HH.out.2.1 (by omega)).mono ?_
  rintro e w1 ⟨⟨x, rfl, hx⟩, hq⟩
  have HB1 := Hid.in hq.below
  clear hq
  cases x
  · clear hx
    go_wp2
    go_ret
    exact ⟨rfl, HB1.out⟩
  have HR : Hid (IsR ps) := hx.1 rfl
  clear hx
  go_wp2_with fail
  refine (ascending_any a' n' c' zs w1 (HH.out.2.2.2.1.below (Nat.le_refl _) HB1.out) HH.out.2.2.2.2.1 (by omega)).mono ?_
  rintro e w2 ⟨⟨x, rfl, hx⟩, hq⟩
  have HB2 : Hid (Below w.heap.size w w2) := below_step HB1.out hq.below
  clear hq HB1
  cases x
  · clear hx
    go_wp2
    go_ret
    exact ⟨rfl, HB2.out⟩
  have HA : Hid (Asc zs) := hx.1 rfl
  clear hx
  go_wp2_with fail
  refine (clonePairs_any a n c ps w2 (HH.out.1.below (Nat.le_refl _) HB2.out) HH.out.2.1 (by omega)).mono ?_
  rintro e w3 ⟨v, rfl, hown, hb⟩
  obtain ⟨b0, d0, rfl, hr⟩ := prow_of_owns hown
  have R3 := Hid.in hr
  have HB3 : Hid (Below w.heap.size w w3) := below_step HB2.out hb
  clear hown hr hb HB2
  go_wp2_with fail
  refine (cloneU64_any a' n' c' zs w3 (HH.out.2.2.2.1.below (Nat.le_refl _) HB3.out) HH.out.2.2.2.2.1 (by omega)).mono ?_
  rintro e w4 ⟨v, rfl, hown, hb⟩
  obtain ⟨bz, dz, rfl, hr⟩ := row_of_owns 0 hown
  have Z4 : Hid (Row w4 bz n' (intV .u64 zs)) := hr
  have R4 := Hid.in (R3.out.below (Nat.le_refl _) hb)
  have HB4 : Hid (Below w.heap.size w w4) := below_step HB3.out hb
  clear hown hr hb HB3 R3
  go_wp2_with fail
  refine (zzWithout_any b0 bz n d0 n' dz ps zs w4 R4.out HH.out.2.1 HR.out HH.out.2.2.1 Z4.out HH.out.2.2.2.2.1 HA.out HH.out.2.2.2.2.2 (by omega) (by omega)).mono ?_
  rintro e w5 ⟨out, hou, v, rfl, hown, hb⟩
  obtain ⟨b1, d1, rfl, hr⟩ := prow_of_owns hown
  have hlen : out.length ≤ 3000000 := by have h1 := outer_len hou; have h2 := HH.out.2.1; have h3 := HH.out.2.2.2.2.1; omega
  have HOU := Hid.in hou
  have O5 := Hid.in hr
  have Z5 := Hid.in (Z4.out.below (Nat.le_refl _) hb)
  have R5 := Hid.in (R4.out.below (Nat.le_refl _) hb)
  have HB5 : Hid (Below w.heap.size w w5) := below_step HB4.out hb
  clear hown hr hb hou HB4 R4 Z4
  go_wp2_with fail
  refine (isRuns_any b1 out.length d1 out w5 O5.out rfl (by omega)).mono ?_
  rintro e w6 ⟨⟨x, rfl, hx⟩, hq⟩
  obtain rfl : x = true := hx.2 HOU.out.isR
  have O6 := Hid.in (O5.out.below (Nat.le_refl _) hq.below)
  have Z6 := Hid.in (Z5.out.below (Nat.le_refl _) hq.below)
  have R6 := Hid.in (R5.out.below (Nat.le_refl _) hq.below)
  have HB6 : Hid (Below w.heap.size w w6) := below_step HB5.out hq.below
  clear hx hq HB5 R5 Z5 O5
  obtain ⟨m, hme⟩ : ∃ m, m = out.length := ⟨_, rfl⟩
  have ME := Hid.in hme
  rw [← hme] at hlen ⊢
  clear hme
  go_wp2
  go_loopw [6] (fun i wr => ∃ k : Nat, k ≤ m ∧ i = .int .i64 k ∧ Hid (Qu w6 wr)) (fun i _ => m - (intOf i).toNat)
  case atStart => exact ⟨0, Nat.zero_le _, rfl, Qu.refl _⟩
  case round =>
    obtain ⟨k, hk, rfl, HQ⟩ := hrel
    by_cases hlt : k < m
    · rcases O6.out with hh | ⟨p1, o1, rfl, hc1⟩
      · exfalso; have := ME.out; omega
      obtain ⟨y0, hy0⟩ : ∃ x, x = pf out k := ⟨_, rfl⟩
      obtain ⟨y1, hy1⟩ : ∃ x, x = pe out k := ⟨_, rfl⟩
      have h0 : wr.cell? ⟨p1, o1 + k * 2, none⟩ = some (.int .u64 y0) := by rw [hy0]; exact HQ.out.cell (hc1 k (by have := ME.out; omega)).1
      have h1 : wr.cell? ⟨p1, o1 + k * 2 + 1, none⟩ = some (.int .u64 y1) := by rw [hy1]; exact HQ.out.cell (hc1 k (by have := ME.out; omega)).2
      obtain ⟨g1, g2⟩ := outer_run HR.out HOU.out (i := k) (by have := ME.out; omega)
      rw [← hy0, ← hy1] at g1 g2
      have G1 := Hid.in g1
      have G2 := Hid.in g2
      clear hy0 hy1 g1 g2 hc1
      go_wp2_with fail
      refine (runAt_any b0 n d0 ps y0 wr (R6.out.below (Nat.le_refl _) HQ.out.below) HH.out.2.1 HR.out (by omega)).mono ?_
      rintro e w7 ⟨⟨z, rfl, lo, hat, hz⟩, hw⟩
      obtain rfl : wr = w7 := hw.symm
      obtain ⟨l1, l2⟩ := G1.out lo hat
      have hlo : lo ≤ n := by have := hat.1; have := HH.out.2.1; omega
      obtain ⟨q2, rfl⟩ : ∃ q2, lo = q2 + 1 := ⟨lo - 1, by omega⟩
      obtain rfl : z = (q2 : Int) := by omega
      rw [Nat.add_sub_cancel] at l2
      rcases R6.out with hh | ⟨p0, o0, rfl, hc0⟩
      · exfalso; omega
      obtain ⟨u, hu⟩ : ∃ u, u = pe ps q2 := ⟨_, rfl⟩
      have h2 : wr.cell? ⟨p0, o0 + q2 * 2 + 1, none⟩ = some (.int .u64 u) := by rw [hu]; exact HQ.out.cell (hc0 q2 (by omega)).2
      rw [← hu] at l2
      clear hat hz hu hc0
      have b1 : decide ((q2 : Int) < 0) = false := decide_eq_false (by omega)
      have b2 : (q2 : Int) < (n : Int) := by omega
      have b3 : (k : Int) < (m : Int) := by omega
      have b4 : ¬ u < y1 := by omega
      go_wp2
      go_quiet (fail)
      go_wp2_with fail
      refine (lowerBound_any bz n' dz zs y0 _ (Z6.out.below (Nat.le_refl _) (HQ.out.drewN nq).below) HH.out.2.2.2.2.1 HA.out (by omega)).mono ?_
      rintro e w8 ⟨⟨z, rfl, lb, hlb, hz⟩, hw⟩
      obtain rfl : wr.drewN nq = w8 := hw.symm
      subst hz
      have hlbn : lb ≤ n' := by have := hlb.1; have := HH.out.2.2.2.2.1; omega
      have g3 := G2.out lb hlb
      by_cases hjn : lb < n'
      · rcases Z6.out with hh | ⟨p2, o2, rfl, hc2⟩
        · exfalso; omega
        obtain ⟨v, hv⟩ : ∃ v, v = zz zs lb := ⟨_, rfl⟩
        have h3 : wr.cell? ⟨p2, o2 + lb, none⟩ = some (.int .u64 v) := by rw [hv]; exact HQ.out.cell (hc2 lb hjn)
        have g4 : ¬ v < y1 := by have := g3 (by have := HH.out.2.2.2.2.1; omega); rw [← hv] at this; omega
        have g5 : (lb : Int) < (n' : Int) := by omega
        clear hlb g3 hv hc2
        go_wp2
        go_quiet (fail)
        go_wp2
        go_roundw
        case rel => exact ⟨k + 1, by omega, by go_num, by first | exact (HQ.out.drewN _).drewN _ | exact HQ.out.drewN _⟩
        case measure => simp [intOf]; omega
      · have g5 : decide ((lb : Int) < (n' : Int)) = false := decide_eq_false (by omega)
        clear hlb g3
        go_wp2
        go_quiet (fail)
        go_wp2
        go_roundw
        case rel => exact ⟨k + 1, by omega, by go_num, by first | exact (HQ.out.drewN _).drewN _ | exact HQ.out.drewN _⟩
        case measure => simp [intOf]; omega
    · have O7 := Hid.in (O6.out.below (Nat.le_refl _) HQ.out.below)
      have Z7 := Hid.in (Z6.out.below (Nat.le_refl _) HQ.out.below)
      have R7 := Hid.in (R6.out.below (Nat.le_refl _) HQ.out.below)
      have HB7 : Hid (Below w.heap.size w wr) := below_step HB6.out HQ.out.below
      obtain ⟨w7, rfl⟩ : ∃ wo : World, wo = wr := ⟨_, rfl⟩
      go_wp2
      go_loopw [9, 10, 11] (fun r i _ wr => ∃ j : Nat, ∃ s : Int, j ≤ n' ∧ i = .int .i64 j ∧ r = .int .u64 s ∧ 0 ≤ s ∧ s ≤ 1048576 ∧ Hid (s = rem zs ps j) ∧ Hid (Qu w7 wr)) (fun _ i _ _ => n' - (intOf i).toNat)
      case atStart => exact ⟨0, 0, Nat.zero_le _, rfl, rfl, by omega, by omega, rfl, Qu.refl _⟩
      case round =>
        obtain ⟨j, s, hj, rfl, rfl, hs0, hs1, HS, HQ2⟩ := hrel
        by_cases hjn : j < n'
        · rcases Z7.out with hh | ⟨p2, o2, rfl, hc2⟩
          · exfalso; omega
          obtain ⟨v, hv⟩ : ∃ v, v = zz zs j := ⟨_, rfl⟩
          have h3 : wr.cell? ⟨p2, o2 + j, none⟩ = some (.int .u64 v) := by rw [hv]; exact HQ2.out.cell (hc2 j hjn)
          have hbd := rem_bound zs ps (j + 1)
          have g5 : (j : Int) < (n' : Int) := by omega
          have V := Hid.in hv
          clear hv
          by_cases hdup : 0 < j ∧ v = zz zs (j - 1)
          · obtain ⟨hj0, hve⟩ := hdup
            have h4 : wr.cell? ⟨p2, o2 + (j - 1), none⟩ = some (.int .u64 v) := by rw [hve]; exact HQ2.out.cell (hc2 (j - 1) (by omega))
            have RR : Hid (rem zs ps (j + 1) = rem zs ps j) := rem_same hj0 (by rw [← V.out]; exact hve)
            have g6 : (0 : Int) ≤ (j : Int) - 1 := by omega
            have g7 : (j : Int) - 1 < (n' : Int) := by omega
            clear hve hc2
            go_wp2
            go_quiet (fail)
            go_wp2
            go_roundw
            case rel => exact ⟨j + 1, s, by omega, by go_num, rfl, hs0, hs1, by rw [RR.out]; exact HS.out, HQ2.out.drewN _⟩
            case measure => simp [intOf]; omega
          have HD : Hid (dB zs j = true) := dB_true (by
            by_cases hj0 : j = 0
            · exact .inl hj0
            · exact .inr (fun e => hdup ⟨by omega, by rw [V.out]; exact e⟩))
          rcases Nat.eq_zero_or_pos j with hj0 | hj0
          have hg : decide (0 < j) = false := decide_eq_false (by omega)
          clear hdup hc2 hj0
          focus go_wp2
          focus go_quiet (fail)
          rotate_left
          obtain ⟨y, hy⟩ : ∃ y, y = zz zs (j - 1) := ⟨_, rfl⟩
          have h4 : wr.cell? ⟨p2, o2 + (j - 1), none⟩ = some (.int .u64 y) := by rw [hy]; exact HQ2.out.cell (hc2 (j - 1) (by omega))
          have hvy : (v == y) = false := beq_eq_false_iff_ne.2 (fun e => hdup ⟨hj0, by rw [← hy]; exact e⟩)
          have g6 : (0 : Int) ≤ (j : Int) - 1 := by omega
          have g7 : (j : Int) - 1 < (n' : Int) := by omega
          clear hy hdup hc2
          focus go_wp2
          focus go_quiet (fail)
          rotate_left
          all_goals
            go_wp2_with fail
            refine (runAt_any b0 n d0 ps v _ (R7.out.below (Nat.le_refl _) (HQ2.out.drewN nq).below) HH.out.2.1 HR.out (by omega)).mono ?_
            rintro e w8 ⟨⟨z, rfl, lo, hat, hz⟩, hw⟩
            obtain rfl : wr.drewN nq = w8 := hw.symm
            have hlo : lo ≤ n := by have := hat.1; have := HH.out.2.1; omega
            by_cases hl0 : 0 < lo
            · obtain ⟨q2, rfl⟩ : ∃ q2, lo = q2 + 1 := ⟨lo - 1, by omega⟩
              obtain rfl : z = (q2 : Int) := by omega
              rcases R7.out with hh | ⟨p0, o0, rfl, hc0⟩
              · exfalso; omega
              obtain ⟨u, hu⟩ : ∃ u, u = pe ps q2 := ⟨_, rfl⟩
              have h5 : wr.cell? ⟨p0, o0 + q2 * 2 + 1, none⟩ = some (.int .u64 u) := by rw [hu]; exact HQ2.out.cell (hc0 q2 (by omega)).2
              have b2 : (q2 : Int) < (n : Int) := by omega
              have b3 : (0 : Int) ≤ (q2 : Int) := by omega
              by_cases hvu : v < u
              · have RR : Hid (rem zs ps (j + 1) = rem zs ps j + 1) := rem_step HR.out (by rw [← V.out]; exact hat) HD.out ⟨hl0, by rw [← V.out, Nat.add_sub_cancel, ← hu]; exact hvu⟩
                have hs2 : s + 1 ≤ 1048576 := by have h1 := RR.out; have h2 := HS.out; omega
                clear hat hz hu hc0 hbd
                go_wp2
                go_quiet (fail)
                go_wp2
                go_roundw
                case rel => exact ⟨j + 1, s + 1, by omega, by go_num, rfl, by omega, hs2, by refine Hid.in ?_; rw [RR.out, HS.out], by first | exact (HQ2.out.drewN _).drewN _ | exact HQ2.out.drewN _⟩
                case measure => simp [intOf]; omega
              · have RR : Hid (rem zs ps (j + 1) = rem zs ps j) := rem_stay HR.out (by rw [← V.out]; exact hat) (fun hh => hvu (by have := hh.2; rw [← V.out, Nat.add_sub_cancel, ← hu] at this; exact this))
                clear hat hz hu hc0 hbd
                go_wp2
                go_quiet (fail)
                go_wp2
                go_roundw
                case rel => exact ⟨j + 1, s, by omega, by go_num, rfl, hs0, hs1, by rw [RR.out]; exact HS.out, by first | exact (HQ2.out.drewN _).drewN _ | exact HQ2.out.drewN _⟩
                case measure => simp [intOf]; omega
            · have RR : Hid (rem zs ps (j + 1) = rem zs ps j) := rem_stay HR.out (by rw [← V.out]; exact hat) (fun hh => hl0 hh.1)
              obtain rfl : z = -1 := by omega
              clear hat hz hbd
              go_wp2
              go_quiet (fail)
              go_wp2
              go_roundw
              case rel => exact ⟨j + 1, s, by omega, by go_num, rfl, hs0, hs1, by rw [RR.out]; exact HS.out, by first | exact (HQ2.out.drewN _).drewN _ | exact HQ2.out.drewN _⟩
              case measure => simp [intOf]; omega
        · have HF : Hid (s = rem zs ps zs.length) := by refine Hid.in ?_; rw [HS.out, show j = zs.length from by have := HH.out.2.2.2.2.1; omega]
          go_wp2_with fail
          refine (runsSize_any b1 m d1 out wr (by rw [ME.out]; exact O7.out.below (Nat.le_refl _) HQ2.out.below) ME.out.symm (by omega)).mono ?_
          rintro e w8 ⟨⟨z8, rfl, hz8⟩, hq8⟩
          have HQ8 := Hid.in (HQ2.out.trans hq8)
          have HZ8 := Hid.in hz8
          clear hq8 hz8
          go_wp2_with fail
          refine (runsSize_any b0 n d0 ps w8 (R7.out.below (Nat.le_refl _) HQ8.out.below) HH.out.2.1 (by omega)).mono ?_
          rintro e w9 ⟨⟨z9, rfl, hz9⟩, hq9⟩
          have HB9 : Hid (Below w.heap.size w w9) := below_step (below_step HB7.out HQ8.out.below) hq9.below
          have HFF : Hid (z8 = IntKind.u64.wrap (z9 - s)) := by
            refine Hid.in ?_
            rw [HZ8.out, hz9, wsub, outer_size HR.out HOU.out, HF.out]
          clear hq9 hz9
          go_wp2
          go_ret
          exact ⟨ret_true (beq_iff_eq.2 HFF.out), HB9.out⟩
end Go.Proofs.Qxb6603923aMods
