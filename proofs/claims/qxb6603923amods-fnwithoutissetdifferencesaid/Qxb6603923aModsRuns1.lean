/-
  Runs as slices of pairs: what is read of them; zzIsRuns, zzAscending, zzRunsSize, the searches.
-/
import Derived.Test.Qxb6603923aModsPlain1
import Derived.Test.Qxb6603923aModsRunsPlain
namespace Go.Proofs.Qxb6603923aMods
open Go.RowKit

/-- A slice of pairs of uint64 (two cells each) that can be read. -/
def PRow (w : World) (a : Option Addr) (n : Nat) (ps : List (Int × Int)) : Prop :=
  n ≤ 0 ∨ ∃ b off, a = some ⟨b, off, none⟩ ∧ ∀ j, j < n → w.cell? ⟨b, off + j * 2, none⟩ = some (.int .u64 (ps.getD j (0, 0)).1) ∧ w.cell? ⟨b, off + j * 2 + 1, none⟩ = some (.int .u64 (ps.getD j (0, 0)).2)

theorem PRow.below {w w' : World} {a : Option Addr} {n : Nat} {ps : List (Int × Int)} (h : PRow w a n ps) {B : Nat} (hB : w.heap.size ≤ B) (hb : Below B w w') : PRow w' a n ps := by
  rcases h with h | ⟨b, off, rfl, hc⟩
  · exact .inl h
  · refine .inr ⟨b, off, rfl, fun j hj => ?_⟩
    have hlt : b < B := by have := cell_lt (hc j hj).1; simp at this; omega
    exact ⟨(hb.cell (by exact hlt)).trans (hc j hj).1, (hb.cell (by exact hlt)).trans (hc j hj).2⟩

/-- Nothing has turned but the count of draws (or new blocks have come). -/
def Qu (w w' : World) : Prop := ∀ B, B ≤ w.heap.size → Below B w w'
theorem Qu.refl (w : World) : Qu w w := fun _ _ => Below.refl _ _
theorem Qu.drewN {w w1 : World} (h : Qu w w1) (nq : Nat) : Qu w (w1.drewN nq) := fun B hB => below_drewN (h B hB) nq
theorem Qu.cell {w w1 : World} (h : Qu w w1) {a : Addr} {v : Value} (hc : w.cell? a = some v) : w1.cell? a = some v := cell_later (h _ (Nat.le_refl _)) hc
theorem Qu.below {w w1 : World} (h : Qu w w1) : Below w.heap.size w w1 := h _ (Nat.le_refl _)
theorem Qu.trans {w w1 w2 : World} (h : Qu w w1) (h2 : Qu w1 w2) : Qu w w2 := fun B hB => (h B hB).trans (h2 B (Nat.le_trans hB (h B hB).size))

/-- Some bool x, true just where P; no memory has turned. -/
def RetQ (w : World) (P : Prop) (e : Ending) (w' : World) : Prop := (∃ x : Bool, e = .returned (.bool x) ∧ (x = true ↔ P)) ∧ Qu w w'
theorem retQ_no {w w' : World} {P : Prop} (h : ¬ P) (hq : Qu w w') : RetQ w P (.returned (.bool false)) w' := ⟨⟨false, rfl, by simp [h]⟩, hq⟩
theorem retQ_yes {w w' : World} {P : Prop} (h : P) (hq : Qu w w') : RetQ w P (.returned (.bool true)) w' := ⟨⟨true, rfl, by simp [h]⟩, hq⟩

theorem isR_bad0 {ps : List (Int × Int)} {n k : Nat} {x0 x1 : Int} (hl : ps.length = n) (hk : k < n) (h0 : x0 = pf ps k) (h1 : x1 = pe ps k) (hx : x1 ≤ x0) : ¬ IsR ps := fun h => by
  have := h.1 k (by omega)
  omega
theorem isR_bad1 {ps : List (Int × Int)} {n k : Nat} {x0 y1 : Int} (hl : ps.length = n) (hk : k < n) (hk0 : ¬ k = 0) (h0 : x0 = pf ps k) (h1 : y1 = pe ps (k - 1)) (hx : x0 ≤ y1) : ¬ IsR ps := fun h => by
  have := h.2 (k - 1) (by omega)
  rw [show k - 1 + 1 = k from by omega] at this
  omega

set_option maxHeartbeats 1000000 in
theorem isRuns_any (a : Option Addr) (n c : Nat) (ps : List (Int × Int)) (w : World) (h : PRow w a n ps) (hl : ps.length = n) (hn : n ≤ 4194304) :
    Calls Trym.prog 8 #[.slice a n c] w (RetQ w (IsR ps)) := by
  have HL := Hid.in hl
  clear hl
  rcases h with h0 | ⟨b, off, rfl, hc⟩
  · obtain rfl : n = 0 := by omega
    go_enter Trym.func8, Trym.ntmps8
    go_wp2
    refine wp_loop_rounds 1 ?_
    rw [rounds_succ]
    go_wp2
    go_ret
    exact retQ_yes ⟨fun j hj => by have := HL.out; omega, fun j hj => by have := HL.out; omega⟩ (Qu.refl _)
  · have HC := Hid.in hc
    clear hc
    go_enter Trym.func8, Trym.ntmps8
    go_wp2
    go_loopw [3] (fun i wr => ∃ k : Nat, k ≤ n ∧ i = .int .i64 k ∧ Hid (Qu w wr) ∧ Hid ((∀ j, j < k → pf ps j < pe ps j) ∧ ∀ j, j + 1 < k → pe ps j < pf ps (j + 1))) (fun i _ => n - (intOf i).toNat)
    case atStart => exact ⟨0, Nat.zero_le _, rfl, Qu.refl _, fun j hj => by omega, fun j hj => by omega⟩
    case round =>
      obtain ⟨k, hk, rfl, HQ, HI⟩ := hrel
      by_cases hlt : k < n
      · obtain ⟨x0, hx0⟩ : ∃ x, x = pf ps k := ⟨_, rfl⟩
        obtain ⟨x1, hx1⟩ : ∃ x, x = pe ps k := ⟨_, rfl⟩
        have h0 : wr.cell? ⟨b, off + k * 2, none⟩ = some (.int .u64 x0) := by rw [hx0]; exact HQ.out.cell (HC.out k hlt).1
        have h1 : wr.cell? ⟨b, off + k * 2 + 1, none⟩ = some (.int .u64 x1) := by rw [hx1]; exact HQ.out.cell (HC.out k hlt).2
        have X0 := Hid.in hx0
        have X1 := Hid.in hx1
        clear hx0 hx1
        have hi0 : (k : Int) < (n : Int) := by omega
        by_cases hx : x1 ≤ x0
        · go_wp2
          go_quiet (fail)
          go_wp2
          go_ret
          exact retQ_no (isR_bad0 HL.out hlt X0.out X1.out hx) (HQ.out.drewN _)
        have hxd : decide (x1 ≤ x0) = false := decide_eq_false hx
        by_cases hk0 : k = 0
        · subst hk0
          simp only [Nat.zero_mul, Nat.add_zero] at h0 h1
          go_wp2
          go_quiet (fail)
          go_wp2
          go_quiet (fail)
          go_wp2
          go_roundw
          case rel => exact ⟨0 + 1, by omega, by go_num, HQ.out.drewN _, fun j hj => by
            obtain rfl : j = 0 := by omega
            rw [← X0.out, ← X1.out]; omega, fun j hj => by omega⟩
          case measure => simp [intOf]; omega
        · obtain ⟨y1, hy1⟩ : ∃ x, x = pe ps (k - 1) := ⟨_, rfl⟩
          have h2 : wr.cell? ⟨b, off + (k - 1) * 2 + 1, none⟩ = some (.int .u64 y1) := by rw [hy1]; exact HQ.out.cell (HC.out (k - 1) (by omega)).2
          have Y1 := Hid.in hy1
          clear hy1
          have hk1 : 0 < k := by omega
          have hk2 : (0 : Int) ≤ (k : Int) - 1 := by omega
          have hk3 : (k : Int) - 1 < (n : Int) := by omega
          by_cases hy : x0 ≤ y1
          · go_wp2
            go_quiet (fail)
            go_wp2
            go_quiet (fail)
            go_wp2
            go_ret
            exact retQ_no (isR_bad1 HL.out hlt hk0 X0.out Y1.out hy) ((HQ.out.drewN _).drewN _)
          · go_wp2
            go_quiet (fail)
            go_wp2
            go_quiet (fail)
            go_wp2
            go_roundw
            case rel => exact ⟨k + 1, by omega, by go_num, HQ.out.drewN _, fun j hj => by
              by_cases hjk : j = k
              · subst hjk; rw [← X0.out, ← X1.out]; omega
              · exact HI.out.1 j (by omega), fun j hj => by
              by_cases hjk : j + 1 = k
              · rw [hjk, ← X0.out, show j = k - 1 from by omega, ← Y1.out]; omega
              · exact HI.out.2 j (by omega)⟩
            case measure => simp [intOf]; omega
      · go_wp2
        go_ret
        exact retQ_yes ⟨fun j hj => HI.out.1 j (by have := HL.out; omega), fun j hj => HI.out.2 j (by have := HL.out; omega)⟩ HQ.out

/-! ### zzRunsSize -/
theorem wadd (a b : Int) : IntKind.u64.wrap (IntKind.u64.wrap a + IntKind.u64.wrap b) = IntKind.u64.wrap (a + b) := by
  rw [IntKind.wrap_u64, IntKind.wrap_u64, IntKind.wrap_u64, IntKind.wrap_u64]; omega
def RetU (w : World) (x : Int) (e : Ending) (w' : World) : Prop := (∃ z, e = .returned (.int .u64 z) ∧ z = IntKind.u64.wrap x) ∧ Qu w w'
theorem size_step {ps : List (Int × Int)} {n k : Nat} {z x0 x1 : Int} (hl : ps.length = n) (hk : k < n) (hz : z = IntKind.u64.wrap (sz (ps.take k))) (h0 : x0 = pf ps k) (h1 : x1 = pe ps k) :
    IntKind.u64.wrap (z + IntKind.u64.wrap (x1 - x0)) = IntKind.u64.wrap (sz (ps.take (k + 1))) := by
  rw [hz, wadd, sz_take ps (by omega), h0, h1]

set_option maxHeartbeats 1000000 in
theorem runsSize_any (a : Option Addr) (n c : Nat) (ps : List (Int × Int)) (w : World) (h : PRow w a n ps) (hl : ps.length = n) (hn : n ≤ 4194304) :
    Calls Trym.prog 15 #[.slice a n c] w (RetU w (sz ps)) := by
  have HL := Hid.in hl
  clear hl
  rcases h with h0 | ⟨b, off, rfl, hc⟩
  · obtain rfl : n = 0 := by omega
    have : ps = [] := List.length_eq_zero_iff.1 HL.out
    subst this
    go_enter Trym.func15, Trym.ntmps15
    go_wp2
    refine wp_loop_rounds 1 ?_
    rw [rounds_succ]
    go_wp2
    go_ret
    exact ⟨⟨_, rfl, rfl⟩, Qu.refl _⟩
  · have HC := Hid.in hc
    clear hc
    go_enter Trym.func15, Trym.ntmps15
    go_wp2
    go_loopw [3, 4] (fun m i wr => ∃ k : Nat, ∃ z : Int, k ≤ n ∧ i = .int .i64 k ∧ m = .int .u64 z ∧ Hid (z = IntKind.u64.wrap (sz (ps.take k))) ∧ Hid (Qu w wr)) (fun _ i _ => n - (intOf i).toNat)
    case atStart => exact ⟨0, 0, Nat.zero_le _, rfl, rfl, rfl, Qu.refl _⟩
    case round =>
      obtain ⟨k, z, hk, rfl, rfl, HZ, HQ⟩ := hrel
      by_cases hlt : k < n
      · obtain ⟨x0, hx0⟩ : ∃ x, x = pf ps k := ⟨_, rfl⟩
        obtain ⟨x1, hx1⟩ : ∃ x, x = pe ps k := ⟨_, rfl⟩
        have h0 : wr.cell? ⟨b, off + k * 2, none⟩ = some (.int .u64 x0) := by rw [hx0]; exact HQ.out.cell (HC.out k hlt).1
        have h1 : wr.cell? ⟨b, off + k * 2 + 1, none⟩ = some (.int .u64 x1) := by rw [hx1]; exact HQ.out.cell (HC.out k hlt).2
        have X0 := Hid.in hx0
        have X1 := Hid.in hx1
        clear hx0 hx1
        have hi0 : (k : Int) < (n : Int) := by omega
        go_wp2
        go_quiet (fail)
        go_wp2
        go_roundw
        case rel => exact ⟨k + 1, _, by omega, by go_num, rfl, size_step HL.out hlt HZ.out X0.out X1.out, HQ.out.drewN _⟩
        case measure => simp [intOf]; omega
      · go_wp2
        go_ret
        exact ⟨⟨_, rfl, by rw [HZ.out, List.take_of_length_le (by have := HL.out; omega)]⟩, HQ.out⟩

/-! ### the searches -/
def RetS (w : World) (P : Int → Prop) (e : Ending) (w' : World) : Prop := (∃ z, e = .returned (.int .i64 z) ∧ P z) ∧ w' = w
def AtBZ (ps : List (Int × Int)) (x z : Int) : Prop := ∃ lo : Nat, AtB ps x lo ∧ z = (lo : Int) - 1

/-- The halving keeps what it is to keep. -/
theorem search_lo {P : Nat → Prop} {n m : Nat} (hm : ∀ i j, i ≤ j → j < n → P j → P i) (hmn : m < n) (hP : P m) : ∀ i, i < m + 1 → P i := fun i hi => hm i m (by omega) hmn hP
theorem search_hi {P : Nat → Prop} {n m : Nat} (hm : ∀ i j, i ≤ j → j < n → P j → P i) (hP : ¬ P m) : ∀ i, m ≤ i → i < n → ¬ P i := fun i h1 h2 h3 => hP (hm m i h1 h2 h3)

set_option maxHeartbeats 1000000 in
theorem runAt_any (a : Option Addr) (n c : Nat) (ps : List (Int × Int)) (x : Int) (w : World) (h : PRow w a n ps) (hl : ps.length = n) (hr : IsR ps) (hn : n ≤ 4194304) :
    Calls Trym.prog 13 #[.slice a n c, .int .u64 x] w (RetS w (AtBZ ps x)) := by
  have HL := Hid.in hl
  have HR := Hid.in hr
  clear hl hr
  rcases h with h0 | ⟨b, off, rfl, hc⟩
  · obtain rfl : n = 0 := by omega
    go_enter Trym.func13, Trym.ntmps13
    go_wp2
    refine wp_loop_rounds 1 ?_
    rw [rounds_succ]
    go_wp2
    go_ret
    exact ⟨⟨_, rfl, 0, ⟨Nat.zero_le _, fun i hi => by omega, fun i _ hi => by have := HL.out; omega⟩, rfl⟩, rfl⟩
  · have HC := Hid.in hc
    clear hc
    have MO : Hid (∀ i j, i ≤ j → j < n → pf ps j ≤ x → pf ps i ≤ x) := fun i j hij hj hp => by
      have := isR_firsts HR.out hij (by have := HL.out; omega)
      omega
    go_enter Trym.func13, Trym.ntmps13
    go_wp2
    go_loop [5, 6, 7] (fun lo hi _ => ∃ l h : Nat, l ≤ h ∧ h ≤ n ∧ lo = .int .i64 l ∧ hi = .int .i64 h ∧ Hid (∀ i, i < l → pf ps i ≤ x) ∧ Hid (∀ i, h ≤ i → i < n → ¬ pf ps i ≤ x)) (fun lo hi _ => (intOf hi).toNat - (intOf lo).toNat)
    case atStart => exact ⟨0, n, Nat.zero_le _, Nat.le_refl _, rfl, rfl, fun i hi => by omega, fun i h1 h2 => by omega⟩
    case round =>
      obtain ⟨l, h, hlh, hh, rfl, rfl, HA, HB⟩ := hrel
      by_cases hlt : l < h
      · obtain ⟨y, hy⟩ : ∃ y, y = pf ps (l + (h - l) / 2) := ⟨_, rfl⟩
        have hcy : w.cell? ⟨b, off + (l + (h - l) / 2) * 2, none⟩ = some (.int .u64 y) := by rw [hy]; exact (HC.out (l + (h - l) / 2) (by omega)).1
        have Y := Hid.in hy
        clear hy
        by_cases hyx : y ≤ x
        · go_wp2
          go_round
          case rel => exact ⟨l + (h - l) / 2 + 1, h, by omega, hh, by go_num, rfl, search_lo (P := fun i => pf ps i ≤ x) (n := n) MO.out (by omega) (by show pf ps _ ≤ x; rw [← Y.out]; exact hyx), HB.out⟩
          case measure => simp only [intOf]; omega
        · go_wp2
          go_round
          case rel => exact ⟨l, l + (h - l) / 2, by omega, by omega, rfl, by go_num, HA.out, search_hi (P := fun i => pf ps i ≤ x) (n := n) MO.out (by show ¬ pf ps _ ≤ x; rw [← Y.out]; exact hyx)⟩
          case measure => simp only [intOf]; omega
      · obtain rfl : l = h := by omega
        go_wp2
        go_ret
        exact ⟨⟨_, rfl, l, ⟨by have := HL.out; omega, HA.out, fun i h1 h2 => by have := HB.out i h1 (by have := HL.out; omega); omega⟩, rfl⟩, rfl⟩
end Go.Proofs.Qxb6603923aMods
