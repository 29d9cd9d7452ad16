/-
  lowerBound: by guesses, then by halves.
-/
import Derived.Test.Qxb6605205aModsLB1
import Derived.Test.Qxb6605205aModsFloat
namespace Go.Proofs.Qxb6605205aMods
open Go.RowKit

theorem search_lo {P : Nat → Prop} {n m : Nat} (hm : ∀ i j, i ≤ j → j < n → P j → P i) (hmn : m < n) (hP : P m) : ∀ i, i < m + 1 → P i := fun i hi => hm i m (by omega) hmn hP
theorem search_hi {P : Nat → Prop} {n m : Nat} (hm : ∀ i j, i ≤ j → j < n → P j → P i) (hP : ¬ P m) : ∀ i, m ≤ i → i < n → ¬ P i := fun i h1 h2 h3 => hP (hm m i h1 h2 h3)

/-- Nothing has turned but the count of draws. -/
def Dr (w w' : World) : Prop := ∃ m, w' = w.drewN m
theorem Dr.refl (w : World) : Dr w w := ⟨0, rfl⟩
theorem Dr.drewN {w w1 : World} (h : Dr w w1) (nq : Nat) : Dr w (w1.drewN nq) := by
  obtain ⟨m, rfl⟩ := h
  exact ⟨m + nq, by rw [World.drewN_drewN]⟩
theorem Dr.qu {w w1 : World} (h : Dr w w1) : Qu w w1 := by
  obtain ⟨m, rfl⟩ := h
  exact (Qu.refl w).drewN m
theorem Dr.cell {w w1 : World} (h : Dr w w1) {a : Addr} {v : Value} (hc : w.cell? a = some v) : w1.cell? a = some v := h.qu.cell hc

def RetLB (w : World) (zs : List Int) (x : Int) (e : Ending) (w' : World) : Prop := (∃ lo : Nat, e = .returned (.int .i64 lo) ∧ LB zs x lo) ∧ Dr w w'

/-- The guess, in the words of the walk. -/
theorem guess_run {key lo hi : Int} {l h : Nat} (h1 : lo < key) (h2 : key ≤ hi) (h3 : 0 ≤ lo) (h4 : hi < 18446744073709551616) (hlh : l + 8 < h) (hh : h ≤ 4194304) :
    ∃ q p t : Nat, (∀ w : World, (binOp .quo 39 (.float .f64 (floatOfInt .f64 (key - lo))) (.float .f64 (floatOfInt .f64 (hi - lo)))).run Trym.prog w = .ok (.float .f64 q) w) ∧
      (∀ w : World, (binOp .mul 39 (.float .f64 q) (.float .f64 (floatOfInt .f64 ((h : Int) - 2 - l)))).run Trym.prog w = .ok (.float .f64 p) w) ∧
      (∀ w : World, (convert 39 3 (.float .f64 p)).run Trym.prog w = .ok (.int .i64 (t : Int)) w) ∧ t ≤ h - 2 - l := by
  obtain ⟨q, p, t, e1, e2, e3, e4⟩ := guess (key - lo).toNat (hi - lo).toNat (h - 2 - l) (by omega) (by omega) (by omega) (by omega)
  rw [show (((key - lo).toNat : Nat) : Int) = key - lo by omega, show (((hi - lo).toNat : Nat) : Int) = hi - lo by omega] at e1
  rw [show ((h - 2 - l : Nat) : Int) = (h : Int) - 2 - l by omega] at e2
  exact ⟨q, p, t, fun w => run_float_arith w .quo 39 .f64 _ _ _ e1, fun w => run_float_arith w .mul 39 .f64 _ _ _ e2, fun w => run_convert_float_int w 39 3 .f64 .i64 _ _ (by rw [Trym.underlying39]; rfl) Trym.underlying3 e3, e4⟩

set_option maxRecDepth 100000 in
set_option maxHeartbeats 4000000 in
theorem lowerBound_any (a : Option Addr) (n c : Nat) (zs : List Int) (key below above : Int) (w : World) (h : Row w a n (intV .u64 zs)) (hl : zs.length = n) (hd : Dom zs below above) (hn : n ≤ 4194304)
    (hb : ∀ j, j < n → 0 ≤ zz zs j ∧ zz zs j < 18446744073709551616) (hk0 : 0 ≤ key) (hk1 : key < 18446744073709551616) (hw0 : 0 ≤ below) (hv1 : above < 18446744073709551616) :
    Calls Trym.prog 18 #[.slice a n c, .int .u64 key, .int .u64 below, .int .u64 above] w (RetLB w zs key) := by
  have HL := Hid.in hl
  have HD := Hid.in hd
  have HC := Hid.in h
  have HBD := Hid.in hb
  clear hl hd h hb
  have MO : Hid (∀ i j, i ≤ j → j < n → zz zs j < key → zz zs i < key) := fun i j hij hj hp => by
    have := asc_mono HD.out.1 hij (by have := HL.out; omega)
    omega
  go_enter Trym.func18, Trym.ntmps18
  go_wp2
  go_loopw [9, 10, 11, 12, 13, 14] (fun i j lo hi gs _ wr => ∃ l h g : Nat, ∃ u v : Int, l ≤ h ∧ h ≤ n ∧ g ≤ 4 ∧ i = .int .i64 l ∧ j = .int .i64 h ∧ gs = .int .i64 g ∧ lo = .int .u64 u ∧ hi = .int .u64 v ∧ Hid (g = 0 → u = below ∧ v = above ∧ l = 0 ∧ h = n) ∧ Hid (Dr w wr) ∧ Hid (∀ i, i < l → zz zs i < key) ∧ Hid (∀ i, h ≤ i → i < n → ¬ zz zs i < key)) (fun _ _ _ _ gs _ _ => 4 - (intOf gs).toNat)
  case atStart => exact ⟨0, n, 0, below, above, Nat.zero_le _, Nat.le_refl _, by omega, rfl, rfl, rfl, rfl, rfl, fun _ => ⟨rfl, rfl, rfl, rfl⟩, Dr.refl _, fun i hi => by omega, fun i h1 h2 => by omega⟩
  case round =>
    obtain ⟨l, h, g, u, v, hlh, hh, hg, rfl, rfl, rfl, rfl, rfl, H0, HQ, HA, HB⟩ := hrel
    by_cases hc1 : l + 8 < h
    · by_cases hc2 : g < 4
      · rcases HC.out with h0 | ⟨b, off, rfl, hc⟩
        · exfalso; omega
        by_cases hg0 : g = 0
        · subst hg0
          have hz := H0.out rfl
          have P1 : Hid (key ≤ u → ∀ i, l ≤ i → i < n → ¬ zz zs i < key) := fun hk i _ hi => by
            have h1 := (HD.out.2 (by have := HL.out; omega)).1
            have h2 := asc_mono HD.out.1 (Nat.zero_le i) (by have := HL.out; omega)
            omega
          have P2 : Hid (v < key → ∀ i, i < h → zz zs i < key) := fun hk i hi => by
            have h1 := (HD.out.2 (by have := HL.out; omega)).2
            have h2 := asc_mono HD.out.1 (show i ≤ zs.length - 1 by have := HL.out; omega) (by have := HL.out; omega)
            omega
          have hu0 : 0 ≤ u := by omega
          have hv1 : v < 18446744073709551616 := by omega
          clear hz H0
          by_cases hku : key ≤ u
          · go_wp2
            go_ret
            exact ⟨⟨l, rfl, by have := HL.out; omega, HA.out, fun i h1 h2 => by have := P1.out hku i h1 (by have := HL.out; omega); omega⟩, HQ.out⟩
          by_cases hkv : v < key
          · go_wp2
            go_ret
            exact ⟨⟨h, rfl, by have := HL.out; omega, P2.out hkv, fun i h1 h2 => by have := HB.out i h1 (by have := HL.out; omega); omega⟩, HQ.out⟩
          obtain ⟨q, p, t, r1, r2, r3, ht⟩ := guess_run (l := l) (h := h) (key := key) (lo := u) (hi := v) (by omega) (by omega) (by omega) (by omega) (by omega) (by omega)
          obtain ⟨y, hy⟩ : ∃ y, y = zz zs (l + 1 + t) := ⟨_, rfl⟩
          have hcy : wr.cell? ⟨b, off + (l + 1 + t), none⟩ = some (.int .u64 y) := by rw [hy]; exact HQ.out.cell (hc (l + 1 + t) (by omega))
          have Y := Hid.in hy
          clear hy hc
          by_cases hyx : y < key
          · go_wp2
            go_roundw
            case rel => exact ⟨l + 1 + t + 1, h, 0 + 1, u, v, by omega, by omega, by omega, by go_num, rfl, by go_num, rfl, rfl, fun h => by omega, HQ.out, search_lo (P := fun i => zz zs i < key) (n := n) MO.out (by omega) (by show zz zs _ < key; rw [← Y.out]; exact hyx), fun i h1 h2 => by have := HB.out i h1 h2; omega⟩
            case measure => simp [intOf]
          · go_wp2
            go_roundw
            case rel => exact ⟨l, l + 1 + t, 0 + 1, u, v, by omega, by omega, by omega, rfl, by go_num, by go_num, rfl, rfl, fun h => by omega, HQ.out, HA.out, search_hi (P := fun i => zz zs i < key) (n := n) MO.out (by show ¬ zz zs _ < key; rw [← Y.out]; omega)⟩
            case measure => simp [intOf]
        · obtain ⟨x0, hx0⟩ : ∃ x, x = zz zs l := ⟨_, rfl⟩
          obtain ⟨x1, hx1⟩ : ∃ x, x = zz zs (h - 1) := ⟨_, rfl⟩
          have h0 : wr.cell? ⟨b, off + l, none⟩ = some (.int .u64 x0) := by rw [hx0]; exact HQ.out.cell (hc l (by omega))
          have h1 : wr.cell? ⟨b, off + (h - 1), none⟩ = some (.int .u64 x1) := by rw [hx1]; exact HQ.out.cell (hc (h - 1) (by omega))
          have P1 : Hid (key ≤ x0 → ∀ i, l ≤ i → i < n → ¬ zz zs i < key) := fun hk i hi1 hi => by
            have h2 := asc_mono HD.out.1 hi1 (by have := HL.out; omega)
            omega
          have P2 : Hid (x1 < key → ∀ i, i < h → zz zs i < key) := fun hk i hi => by
            have h2 := asc_mono HD.out.1 (show i ≤ h - 1 by omega) (by have := HL.out; omega)
            omega
          have hu0 : 0 ≤ x0 := by rw [hx0]; exact (HBD.out l (by omega)).1
          have hv1 : x1 < 18446744073709551616 := by rw [hx1]; exact (HBD.out (h - 1) (by omega)).2
          have X0 := Hid.in hx0
          have X1 := Hid.in hx1
          clear hx0 hx1 H0
          have hgp : 0 < g := by omega
          have hi0 : (l : Int) < (n : Int) := by omega
          have hi1 : (0 : Int) ≤ (h : Int) - 1 := by omega
          have hi2 : (h : Int) - 1 < (n : Int) := by omega
          by_cases hku : key ≤ x0
          · go_wp2
            go_quiet (fail)
            go_wp2
            go_ret
            exact ⟨⟨l, rfl, by have := HL.out; omega, HA.out, fun i h1 h2 => by have := P1.out hku i h1 (by have := HL.out; omega); omega⟩, HQ.out.drewN _⟩
          by_cases hkv : x1 < key
          · go_wp2
            go_quiet (fail)
            go_wp2
            go_ret
            exact ⟨⟨h, rfl, by have := HL.out; omega, P2.out hkv, fun i h1 h2 => by have := HB.out i h1 (by have := HL.out; omega); omega⟩, HQ.out.drewN _⟩
          obtain ⟨q, p, t, r1, r2, r3, ht⟩ := guess_run (l := l) (h := h) (key := key) (lo := x0) (hi := x1) (by omega) (by omega) (by omega) (by omega) (by omega) (by omega)
          obtain ⟨y, hy⟩ : ∃ y, y = zz zs (l + 1 + t) := ⟨_, rfl⟩
          have hcy : wr.cell? ⟨b, off + (l + 1 + t), none⟩ = some (.int .u64 y) := by rw [hy]; exact HQ.out.cell (hc (l + 1 + t) (by omega))
          have Y := Hid.in hy
          clear hy hc
          by_cases hyx : y < key
          · go_wp2
            go_quiet (fail)
            go_wp2
            go_roundw
            case rel => exact ⟨l + 1 + t + 1, h, g + 1, x0, x1, by omega, by omega, by omega, by go_num, rfl, by go_num, rfl, rfl, fun h => by omega, HQ.out.drewN _, search_lo (P := fun i => zz zs i < key) (n := n) MO.out (by omega) (by show zz zs _ < key; rw [← Y.out]; exact hyx), fun i h1 h2 => by have := HB.out i h1 h2; omega⟩
            case measure => simp [intOf]; omega
          · go_wp2
            go_quiet (fail)
            go_wp2
            go_roundw
            case rel => exact ⟨l + 1, l + 1 + t, g + 1, x0, x1, by omega, by omega, by omega, by go_num, by go_num, by go_num, rfl, rfl, fun h => by omega, HQ.out.drewN _, search_lo (P := fun i => zz zs i < key) (n := n) MO.out (by omega) (by show zz zs _ < key; rw [← X0.out]; omega), search_hi (P := fun i => zz zs i < key) (n := n) MO.out (by show ¬ zz zs _ < key; rw [← Y.out]; omega)⟩
            case measure => simp [intOf]; omega
      · clear H0
        have hgd : (4 : Int) ≤ (g : Int) := by omega
        go_wp2
        clear hc1 hc2 hg hgd
        go_loop [9, 10, 15] (fun i j _ => ∃ l h : Nat, l ≤ h ∧ h ≤ n ∧ i = .int .i64 l ∧ j = .int .i64 h ∧ Hid (∀ i, i < l → zz zs i < key) ∧ Hid (∀ i, h ≤ i → i < n → ¬ zz zs i < key)) (fun i j _ => (intOf j).toNat - (intOf i).toNat)
        case atStart => exact ⟨l, h, hlh, hh, rfl, rfl, HA.out, fun i h1 h2 => by have := HB.out i h1 h2; omega⟩
        case round =>
          clear hlh hh HA HB
          obtain ⟨l, h, hlh, hh, rfl, rfl, HA, HB⟩ := hrel
          by_cases hlt : l < h
          · rcases HC.out with h0 | ⟨b, off, rfl, hc⟩
            · exfalso; omega
            obtain ⟨y, hy⟩ : ∃ y, y = zz zs ((l + h) / 2) := ⟨_, rfl⟩
            have hcy : wr.cell? ⟨b, off + (l + h) / 2, none⟩ = some (.int .u64 y) := by rw [hy]; exact HQ.out.cell (hc ((l + h) / 2) (by omega))
            have Y := Hid.in hy
            clear hy hc
            by_cases hyx : y < key
            · go_wp2
              go_round
              case rel => exact ⟨(l + h) / 2 + 1, h, by omega, hh, by go_num, rfl, search_lo (P := fun i => zz zs i < key) (n := n) MO.out (by omega) (by show zz zs _ < key; rw [← Y.out]; exact hyx), fun i h1 h2 => by have := HB.out i h1 h2; omega⟩
              case measure => simp only [intOf]; omega
            · go_wp2
              go_round
              case rel => exact ⟨l, (l + h) / 2, by omega, by omega, rfl, by go_num, HA.out, search_hi (P := fun i => zz zs i < key) (n := n) MO.out (by show ¬ zz zs _ < key; rw [← Y.out]; omega)⟩
              case measure => simp only [intOf]; omega
          · obtain rfl : l = h := by omega
            go_wp2
            go_ret
            exact ⟨⟨l, rfl, by have := HL.out; omega, HA.out, fun i h1 h2 => by have := HB.out i h1 (by have := HL.out; omega); omega⟩, HQ.out⟩
    · have hcd : (h : Int) - (l : Int) ≤ 8 := by omega
      go_wp2
      clear hc1 hg hcd H0
      go_loop [9, 10, 15] (fun i j _ => ∃ l h : Nat, l ≤ h ∧ h ≤ n ∧ i = .int .i64 l ∧ j = .int .i64 h ∧ Hid (∀ i, i < l → zz zs i < key) ∧ Hid (∀ i, h ≤ i → i < n → ¬ zz zs i < key)) (fun i j _ => (intOf j).toNat - (intOf i).toNat)
      case atStart => exact ⟨l, h, hlh, hh, rfl, rfl, HA.out, fun i h1 h2 => by have := HB.out i h1 h2; omega⟩
      case round =>
        clear hlh hh HA HB
        obtain ⟨l, h, hlh, hh, rfl, rfl, HA, HB⟩ := hrel
        by_cases hlt : l < h
        · rcases HC.out with h0 | ⟨b, off, rfl, hc⟩
          · exfalso; omega
          obtain ⟨y, hy⟩ : ∃ y, y = zz zs ((l + h) / 2) := ⟨_, rfl⟩
          have hcy : wr.cell? ⟨b, off + (l + h) / 2, none⟩ = some (.int .u64 y) := by rw [hy]; exact HQ.out.cell (hc ((l + h) / 2) (by omega))
          have Y := Hid.in hy
          clear hy hc
          by_cases hyx : y < key
          · go_wp2
            go_round
            case rel => exact ⟨(l + h) / 2 + 1, h, by omega, hh, by go_num, rfl, search_lo (P := fun i => zz zs i < key) (n := n) MO.out (by omega) (by show zz zs _ < key; rw [← Y.out]; exact hyx), fun i h1 h2 => by have := HB.out i h1 h2; omega⟩
            case measure => simp only [intOf]; omega
          · go_wp2
            go_round
            case rel => exact ⟨l, (l + h) / 2, by omega, by omega, rfl, by go_num, HA.out, search_hi (P := fun i => zz zs i < key) (n := n) MO.out (by show ¬ zz zs _ < key; rw [← Y.out]; omega)⟩
            case measure => simp only [intOf]; omega
        · obtain rfl : l = h := by omega
          go_wp2
          go_ret
          exact ⟨⟨l, rfl, by have := HL.out; omega, HA.out, fun i h1 h2 => by have := HB.out i h1 (by have := HL.out; omega); omega⟩, HQ.out⟩
end Go.Proofs.Qxb6605205aMods
