/-
  The walk of FnUnendedIsTheUnendedSet.
-/
import Derived.Test.Qxb6603923aModsRuns3
namespace Go.Proofs.Qxb6603923aMods
open Go.RowKit

theorem want_yes {low : Int} {ps : List (Int × Int)} {k n : Nat} {z x0 x1 : Int} (hl : ps.length = n) (hk : k < n) (hz : z = IntKind.u64.wrap (sz (cut low (ps.take k)))) (h0 : x0 = pf ps k) (h1 : x1 = pe ps k) (hlt : max x0 low < x1) :
    IntKind.u64.wrap (z + IntKind.u64.wrap (x1 - max x0 low)) = IntKind.u64.wrap (sz (cut low (ps.take (k + 1)))) := by
  rw [hz, wadd, cut_take_yes low ps (by omega) (by rw [← h0, ← h1]; exact hlt), sz_snoc, h0, h1]
theorem want_no {low : Int} {ps : List (Int × Int)} {k n : Nat} {z x0 x1 : Int} (hl : ps.length = n) (hk : k < n) (hz : z = IntKind.u64.wrap (sz (cut low (ps.take k)))) (h0 : x0 = pf ps k) (h1 : x1 = pe ps k) (hlt : ¬ max x0 low < x1) :
    z = IntKind.u64.wrap (sz (cut low (ps.take (k + 1)))) := by
  rw [hz, cut_take_no low ps (by omega) (by rw [← h0, ← h1]; exact hlt)]

theorem ret_true {x : Bool} (h : x = true) : Ending.returned (.bool x) = .returned (.bool true) := by rw [h]

set_option maxRecDepth 100000 in
set_option maxHeartbeats 4000000 in
theorem lawUnended (low high ended : Int) (a : Option Addr) (n c : Nat) (ps : List (Int × Int)) (w : World) (h : PRow w a n ps) (hl : ps.length = n) (hm : n ≤ maxLen) :
    Calls Trym.prog 4 #[.int .u64 low, .int .u64 high, .int .u64 ended, .slice a n c] w (RetT w) := by
  have H := Hid.in (And.intro h hl)
  clear h hl
  go_enter Trym.func4, Trym.ntmps4
  go_wp2_with fail
  refine (bytes16_any low high ended a n c w hm).mono ?_
  rintro e w1 ⟨⟨x, rfl, hx⟩, hw⟩
  obtain rfl : w = w1 := hw.symm
  clear hm
  cases x
  · clear hx
    go_wp2
    go_ret
    exact ⟨rfl, Below.refl _ _⟩
  have q := hx rfl
  clear hx
  go_wp2_with fail
  all_goals try (go_ret; exact ⟨rfl, Below.refl _ _⟩; done)
  refine (isRuns_any a n c ps w H.out.1 H.out.2 (by omega)).mono ?_
  rintro e w1 ⟨⟨x, rfl, hx⟩, hq⟩
  have HQ := Hid.in hq
  clear hq
  cases x
  · clear hx
    go_wp2
    go_ret
    exact ⟨rfl, HQ.out.below⟩
  have HR : Hid (IsR ps) := hx.1 rfl
  clear hx
  by_cases heh : high < ended
  · go_wp2
    go_ret
    exact ⟨rfl, HQ.out.below⟩
  have hcase : (n ≤ 0 ∧ ∀ j, j < ps.length → pe ps j ≤ ended) ∨ ∃ b off y, a = some ⟨b, off, none⟩ ∧ 0 < n ∧ w1.cell? ⟨b, off + (n - 1) * 2 + 1, none⟩ = some (.int .u64 y) ∧ (y ≤ ended → ∀ j, j < ps.length → pe ps j ≤ ended) := by
    by_cases hn0 : n ≤ 0
    · exact .inl ⟨hn0, fun j hj => by have := H.out.2; omega⟩
    rcases H.out.1 with h | ⟨b, off, rfl, hc⟩
    · omega
    · refine .inr ⟨b, off, pe ps (n - 1), rfl, by omega, HQ.out.cell (hc (n - 1) (by omega)).2, fun hy j hj => ?_⟩
      have hl := H.out.2
      by_cases e : j = n - 1
      · rw [e]; exact hy
      · have h1 := isR_lt HR.out (show j < n - 1 from by omega) (by omega)
        have h2 := HR.out.1 (n - 1) (by omega)
        omega
  rcases hcase with ⟨hn0, he⟩ | ⟨b, off, y, rfl, hn0, hcy, he⟩
  rotate_left
  have hi1 : (0 : Int) ≤ (n : Int) - 1 := by omega
  have hi2 : (n : Int) - 1 < (n : Int) := by omega
  by_cases hy : ended < y
  · clear he
    go_wp2
    go_ret
    exact ⟨rfl, HQ.out.below⟩
  have HE := Hid.in (he (by omega))
  clear he
  rotate_left
  have HE := Hid.in he
  clear he
  all_goals
    go_wp2_with fail
    refine (clonePairs_any _ n c ps w1 (H.out.1.below (Nat.le_refl _) HQ.out.below) H.out.2 (by omega)).mono ?_
    rintro e w2 ⟨v, rfl, hown, hb⟩
    obtain ⟨b0, d0, rfl, hr⟩ := prow_of_owns hown
    have R2 := Hid.in hr
    have HB2 : Hid (Below w.heap.size w w2) := below_step HQ.out.below hb
    clear hown hr hb HQ
    go_wp2_with fail
    refine (zzUnended_any low high ended b0 n d0 ps w2 R2.out H.out.2 HR.out (by omega)).mono ?_
    rintro e w3 ⟨m, hme, v, rfl, hown, hb⟩
    obtain ⟨b1, d1, rfl, hr⟩ := prow_of_owns hown
    obtain ⟨k1, k2, k3⟩ := unended_law (low := low) HR.out (show ended ≤ high from by omega) HE.out
    have hmn : m ≤ n + 1 := by
      have h1 := cut_len low ps
      have h2 := H.out.2
      rw [hme]
      unfold finF plusF
      split
      · split <;> simp <;> omega
      · omega
    obtain ⟨out, hout⟩ : ∃ out, out = finF (cut low ps) (max low ended) high := ⟨_, rfl⟩
    rw [← hout] at k1 k2 k3 hme hr
    have K1 := Hid.in k1
    have K2 := Hid.in k2
    have K3 := Hid.in k3
    have ME := Hid.in hme.symm
    have R3 := Hid.in (R2.out.below (Nat.le_refl _) hb)
    have O3 := Hid.in hr
    have HB3 : Hid (Below w.heap.size w w3) := below_step HB2.out hb
    clear hown hr hb R2 HB2 hout k1 k2 k3 hme
    go_wp2_with fail
    refine (isRuns_any b1 m d1 out w3 O3.out ME.out (by omega)).mono ?_
    rintro e w4 ⟨⟨x, rfl, hx⟩, hq⟩
    obtain rfl : x = true := hx.2 K1.out
    have R4 := Hid.in (R3.out.below (Nat.le_refl _) hq.below)
    have O4 := Hid.in (O3.out.below (Nat.le_refl _) hq.below)
    have HB4 : Hid (Below w.heap.size w w4) := below_step HB3.out hq.below
    clear hx hq R3 O3 HB3
    have hcase0 : n ≤ 0 ∨ (0 < n ∧ ∃ p0 o0, b0 = some ⟨p0, o0, none⟩ ∧ Hid (∀ j, j < n → w4.cell? ⟨p0, o0 + j * 2, none⟩ = some (.int .u64 (pf ps j)) ∧ w4.cell? ⟨p0, o0 + j * 2 + 1, none⟩ = some (.int .u64 (pe ps j)))) := by
      by_cases h : n ≤ 0
      · exact .inl h
      · rcases R4.out with h' | ⟨p0, o0, e, hc⟩
        · exact absurd h' h
        · exact .inr ⟨by omega, p0, o0, e, hc⟩
    have hcase : m ≤ 0 ∨ (0 < m ∧ ∃ p1 o1, b1 = some ⟨p1, o1, none⟩ ∧ Hid (∀ j, j < m → w4.cell? ⟨p1, o1 + j * 2, none⟩ = some (.int .u64 (pf out j)) ∧ w4.cell? ⟨p1, o1 + j * 2 + 1, none⟩ = some (.int .u64 (pe out j)))) := by
      by_cases h : m ≤ 0
      · exact .inl h
      · rcases O4.out with h' | ⟨p0, o0, e, hc⟩
        · exact absurd h' h
        · exact .inr ⟨by omega, p0, o0, e, hc⟩
    rcases hcase0 with hn1 | ⟨hn1, p0, o0, rfl, HC0⟩ <;> first | (exfalso; omega; done) | skip
    all_goals
      rcases hcase with hm1 | ⟨hm1, p1, o1, rfl, HC1⟩
      all_goals
        go_wp2
        go_loopw [10] (fun i wr => ∃ k : Nat, k ≤ m ∧ i = .int .i64 k ∧ Hid (Qu w4 wr)) (fun i _ => m - (intOf i).toNat)
        case atStart => exact ⟨0, Nat.zero_le _, rfl, Qu.refl _⟩
        case round =>
          obtain ⟨k, hk, rfl, HQ⟩ := hrel
          by_cases hlt : k < m
          · first | (exfalso; omega; done) | skip
            all_goals
              obtain ⟨y0, hy0⟩ : ∃ x, x = pf out k := ⟨_, rfl⟩
              obtain ⟨y1, hy1⟩ : ∃ x, x = pe out k := ⟨_, rfl⟩
              have h0 : wr.cell? ⟨p1, o1 + k * 2, none⟩ = some (.int .u64 y0) := by rw [hy0]; exact HQ.out.cell (HC1.out k hlt).1
              have h1 : wr.cell? ⟨p1, o1 + k * 2 + 1, none⟩ = some (.int .u64 y1) := by rw [hy1]; exact HQ.out.cell (HC1.out k hlt).2
              obtain ⟨g1, g2, g3⟩ := K2.out k (by have := ME.out; omega)
              rw [← hy0, ← hy1] at g3
              rw [← hy0] at g1
              rw [← hy1] at g2
              have G3 := Hid.in g3
              clear hy0 hy1 g3
              by_cases hye : y0 < ended
              · go_wp2_with fail
                refine (runAt_any _ n d0 ps y0 wr (R4.out.below (Nat.le_refl _) HQ.out.below) H.out.2 HR.out (by omega)).mono ?_
                rintro e w5 ⟨⟨z, rfl, lo, hat, hz⟩, hw⟩
                obtain rfl : wr = w5 := hw.symm
                obtain ⟨l1, l2⟩ := G3.out hye lo hat
                have hlo : lo ≤ n := by have := hat.1; have := H.out.2; omega
                obtain ⟨q2, rfl⟩ : ∃ q2, lo = q2 + 1 := ⟨lo - 1, by omega⟩
                obtain rfl : z = (q2 : Int) := by omega
                first | (exfalso; omega; done) | skip
                all_goals
                  rw [Nat.add_sub_cancel] at l2
                  obtain ⟨u, hu⟩ : ∃ u, u = pe ps q2 := ⟨_, rfl⟩
                  have h2 : wr.cell? ⟨p0, o0 + q2 * 2 + 1, none⟩ = some (.int .u64 u) := by rw [hu]; exact HQ.out.cell (HC0.out q2 (by omega)).2
                  rw [← hu] at l2
                  clear hat hz hu
                  have b1 : decide ((q2 : Int) < 0) = false := decide_eq_false (by omega)
                  have b2 : (q2 : Int) < (n : Int) := by omega
                  have b3 : (k : Int) < (m : Int) := by omega
                  have b4 : ¬ u < min y1 ended := by omega
                  go_wp2
                  go_quiet ((go_at_call 18; exact Calls.quiet_of_same (minU_any _ _ _)))
                  go_wp2
                  go_roundw
                  case rel => exact ⟨k + 1, by omega, by go_num, HQ.out.drewN _⟩
                  case measure => simp [intOf]; omega
              · go_wp2
                go_roundw
                case rel => exact ⟨k + 1, by omega, by go_num, HQ.out⟩
                case measure => simp [intOf]; omega
          · have HQB : Hid (Below w.heap.size w wr) := below_step HB4.out HQ.out.below
            go_wp2
            go_loop [12, 13, 14, 15] (fun z i _ _ => ∃ k : Nat, ∃ s : Int, k ≤ n ∧ i = .int .i64 k ∧ z = .int .u64 s ∧ Hid (s = IntKind.u64.wrap (sz (cut low (ps.take k))))) (fun _ i _ _ => n - (intOf i).toNat)
            case atStart => exact ⟨0, 0, Nat.zero_le _, rfl, rfl, rfl⟩
            case round =>
              obtain ⟨k2, s, hk2, rfl, rfl, HZ⟩ := hrel
              by_cases hlt2 : k2 < n
              · first | (exfalso; omega; done) | skip
                all_goals
                  obtain ⟨x0, hx0⟩ : ∃ x, x = pf ps k2 := ⟨_, rfl⟩
                  obtain ⟨x1, hx1⟩ : ∃ x, x = pe ps k2 := ⟨_, rfl⟩
                  have h0 : wr.cell? ⟨p0, o0 + k2 * 2, none⟩ = some (.int .u64 x0) := by rw [hx0]; exact HQ.out.cell (HC0.out k2 hlt2).1
                  have h1 : wr.cell? ⟨p0, o0 + k2 * 2 + 1, none⟩ = some (.int .u64 x1) := by rw [hx1]; exact HQ.out.cell (HC0.out k2 hlt2).2
                  have hxh : x1 ≤ high := by have := HE.out k2 (by have := H.out.2; omega); omega
                  have X0 := Hid.in hx0
                  have X1 := Hid.in hx1
                  clear hx0 hx1
                  go_wp2_with fail
                  refine (maxU_any x0 low wr).mono ?_
                  rintro e w5 ⟨rfl, hw⟩
                  obtain rfl : wr = w5 := hw.symm
                  go_wp2_with fail
                  refine (minU_any x1 high wr).mono ?_
                  rintro e w5 ⟨rfl, hw⟩
                  obtain rfl : wr = w5 := hw.symm
                  rw [show min x1 high = x1 from by omega]
                  by_cases hlt3 : max x0 low < x1
                  · have RR := Hid.in (want_yes H.out.2 hlt2 HZ.out X0.out X1.out hlt3)
                    generalize max x0 low = mx at *
                    go_wp2
                    go_round
                    case rel => exact ⟨k2 + 1, _, by omega, by go_num, rfl, RR.out⟩
                    case measure => simp [intOf]; omega
                  · have RR := Hid.in (want_no H.out.2 hlt2 HZ.out X0.out X1.out hlt3)
                    generalize max x0 low = mx at *
                    go_wp2
                    go_round
                    case rel => exact ⟨k2 + 1, _, by omega, by go_num, rfl, RR.out⟩
                    case measure => simp [intOf]; omega
              · have HZ2 : Hid (s = IntKind.u64.wrap (sz (cut low ps))) := by have := HZ.out; rw [List.take_of_length_le (by have := H.out.2; omega)] at this; exact this
                go_wp2_with fail
                refine (maxU_any low ended wr).mono ?_
                rintro e w5 ⟨rfl, hw⟩
                obtain rfl : wr = w5 := hw.symm
                obtain ⟨mx, hmx⟩ : ∃ mx, mx = max low ended := ⟨_, rfl⟩
                rw [← hmx]
                have K4 := K3.out
                rw [← hmx] at K4
                have K5 := Hid.in K4
                clear hmx K4
                by_cases hlt3 : mx < high
                · go_wp2_with fail
                  refine (runsSize_any _ m d1 out wr (O4.out.below (Nat.le_refl _) HQ.out.below) ME.out (by omega)).mono ?_
                  rintro e w6 ⟨⟨z6, rfl, hz6⟩, hq6⟩
                  have HF : Hid (z6 = IntKind.u64.wrap (s + IntKind.u64.wrap (high - mx))) := by
                    refine Hid.in ?_
                    have := K5.out
                    rw [if_pos hlt3] at this
                    rw [hz6, HZ2.out, wadd, this]
                  have HB6 : Hid (Below w.heap.size w w6) := below_step HQB.out hq6.below
                  clear hz6 hq6
                  go_wp2
                  go_ret
                  exact ⟨ret_true (beq_iff_eq.2 HF.out), HB6.out⟩
                · go_wp2_with fail
                  refine (runsSize_any _ m d1 out wr (O4.out.below (Nat.le_refl _) HQ.out.below) ME.out (by omega)).mono ?_
                  rintro e w6 ⟨⟨z6, rfl, hz6⟩, hq6⟩
                  have HF : Hid (z6 = s) := by
                    refine Hid.in ?_
                    have := K5.out
                    rw [if_neg (by omega), Int.add_zero] at this
                    rw [hz6, HZ2.out, this]
                  have HB6 : Hid (Below w.heap.size w w6) := below_step HQB.out hq6.below
                  clear hz6 hq6
                  go_wp2
                  go_ret
                  exact ⟨ret_true (beq_iff_eq.2 HF.out), HB6.out⟩
end Go.Proofs.Qxb6603923aMods
