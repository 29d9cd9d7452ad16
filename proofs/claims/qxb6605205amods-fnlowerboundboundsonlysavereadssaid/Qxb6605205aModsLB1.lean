/-
  Keys: lbDomain, cloneKeys, countLess, the bounds on length.
-/
import Derived.Test.Qxb6605205aModsBase
namespace Go.Proofs.Qxb6605205aMods
open Go.RowKit

/-! ### plain -/
def zz (zs : List Int) (j : Nat) : Int := zs.getD j 0
def Asc (zs : List Int) : Prop := ∀ j, j + 1 < zs.length → zz zs j ≤ zz zs (j + 1)
theorem asc_le {zs : List Int} (h : Asc zs) : ∀ d i, i + d < zs.length → zz zs i ≤ zz zs (i + d)
  | 0, _, _ => Int.le_refl _
  | d + 1, i, hi => by
    have h1 := asc_le h d i (by omega)
    have h2 := h (i + d) (by omega)
    have e : i + (d + 1) = i + d + 1 := by omega
    rw [e]; omega
theorem asc_mono {zs : List Int} (h : Asc zs) {i j : Nat} (hij : i ≤ j) (hj : j < zs.length) : zz zs i ≤ zz zs j := by
  have := asc_le h (j - i) i (by omega)
  rwa [show i + (j - i) = j from by omega] at this
/-- The domain of lowerBound. -/
def Dom (zs : List Int) (lo hi : Int) : Prop := Asc zs ∧ (0 < zs.length → lo ≤ zz zs 0 ∧ zz zs (zs.length - 1) ≤ hi)
/-- lo: how many of zs are below x. -/
def LB (zs : List Int) (x : Int) (lo : Nat) : Prop := lo ≤ zs.length ∧ (∀ i, i < lo → zz zs i < x) ∧ ∀ i, lo ≤ i → i < zs.length → x ≤ zz zs i
def cnt (zs : List Int) (x : Int) : Nat → Nat
  | 0 => 0
  | k + 1 => cnt zs x k + if zz zs k < x then 1 else 0
theorem cnt_le (zs : List Int) (x : Int) : ∀ k, cnt zs x k ≤ k
  | 0 => Nat.le_refl _
  | k + 1 => by have := cnt_le zs x k; simp only [cnt]; split <;> omega
theorem cnt_LB {zs : List Int} {x : Int} {lo : Nat} (h : LB zs x lo) : ∀ k, k ≤ zs.length → cnt zs x k = min k lo
  | 0, _ => by simp [cnt]
  | k + 1, hk => by
    have ih := cnt_LB h k (by omega)
    simp only [cnt, ih]
    by_cases hl : k < lo
    · rw [if_pos (h.2.1 k hl)]; omega
    · have := h.2.2 k (by omega) (by omega)
      rw [if_neg (by omega)]; omega

/-- Nothing has turned but the count of draws (or new blocks have come). -/
def Qu (w w' : World) : Prop := ∀ B, B ≤ w.heap.size → Below B w w'
theorem Qu.refl (w : World) : Qu w w := fun _ _ => Below.refl _ _
theorem Qu.drewN {w w1 : World} (h : Qu w w1) (nq : Nat) : Qu w (w1.drewN nq) := fun B hB => below_drewN (h B hB) nq
theorem Qu.cell {w w1 : World} (h : Qu w w1) {a : Addr} {v : Value} (hc : w.cell? a = some v) : w1.cell? a = some v := cell_later (h _ (Nat.le_refl _)) hc
theorem Qu.below {w w1 : World} (h : Qu w w1) : Below w.heap.size w w1 := h _ (Nat.le_refl _)
theorem Qu.trans {w w1 w2 : World} (h : Qu w w1) (h2 : Qu w1 w2) : Qu w w2 := fun B hB => (h B hB).trans (h2 B (Nat.le_trans hB (h B hB).size))
theorem Qu.row {w w' : World} {a : Option Addr} {n : Nat} {f : Nat → Value} (h : Row w a n f) (hq : Qu w w') : Row w' a n f := h.below (Nat.le_refl _) hq.below

/-- Some bool x, true just where P; no memory has turned. -/
def RetQ (w : World) (P : Prop) (e : Ending) (w' : World) : Prop := (∃ x : Bool, e = .returned (.bool x) ∧ (x = true ↔ P)) ∧ Qu w w'
theorem retQ_no {w w' : World} {P : Prop} (h : ¬ P) (hq : Qu w w') : RetQ w P (.returned (.bool false)) w' := ⟨⟨false, rfl, by simp [h]⟩, hq⟩
theorem retQ_yes {w w' : World} {P : Prop} (h : P) (hq : Qu w w') : RetQ w P (.returned (.bool true)) w' := ⟨⟨true, rfl, by simp [h]⟩, hq⟩
def RetRow (w : World) (e : TypeId) (n : Nat) (xs : List Value) (en : Ending) (w' : World) : Prop := ∃ v, en = .returned v ∧ w'.ownsRow w.heap.size e 1 v n xs ∧ Below w.heap.size w w'
/-- A whole number z with P z comes back; the world stands. -/
def RetS (w : World) (P : Int → Prop) (e : Ending) (w' : World) : Prop := (∃ z, e = .returned (.int .i64 z) ∧ P z) ∧ w' = w

theorem Trym.info23 : (Trym.prog.info? 23).map (fun i => (i.zero, i.size, i.bytes)) = some (some (.int .u64 0), 1, 8) := by kernel_rfl

theorem asc_bad {zs : List Int} {n k : Nat} {x0 x1 : Int} (hl : zs.length = n) (hk : k < n) (hk0 : 0 < k) (h0 : x0 = zz zs (k - 1)) (h1 : x1 = zz zs k) (hx : x1 < x0) : ¬ Asc zs := fun h => by
  have := h (k - 1) (by omega)
  rw [show k - 1 + 1 = k from by omega] at this
  omega

theorem bytes7_any (a : Option Addr) (n c : Nat) (x y z : Int) (w : World) (m : n ≤ maxLen) : Calls Trym.prog 7 #[.slice a n c, .int .u64 x, .int .u64 y, .int .u64 z] w (RetB w (Bnd1 n)) := by
  unfold maxLen at m
  go_enter Trym.func7, Trym.ntmps7
  go_wp2
  all_goals try (go_ret; exact retB false bnd1_no; done)
  go_ret
  exact retB true (fun _ => by omega)
theorem bytes12_any (a : Option Addr) (n c : Nat) (x y z : Int) (w : World) (m : n ≤ maxLen) : Calls Trym.prog 12 #[.slice a n c, .int .u64 x, .int .u64 y, .int .u64 z] w (RetB w (Bnd1 n)) := by
  unfold maxLen at m
  go_enter Trym.func12, Trym.ntmps12
  go_wp2
  all_goals try (go_ret; exact retB false bnd1_no; done)
  go_ret
  exact retB true (fun _ => by omega)

set_option maxHeartbeats 1000000 in
theorem lbDomain_any (a : Option Addr) (n c : Nat) (zs : List Int) (lo hi : Int) (w : World) (h : Row w a n (intV .u64 zs)) (hl : zs.length = n) (hn : n ≤ 4194304) :
    Calls Trym.prog 8 #[.slice a n c, .int .u64 lo, .int .u64 hi] w (RetQ w (Dom zs lo hi)) := by
  have HL := Hid.in hl
  clear hl
  rcases h with h0 | ⟨b, off, rfl, hc⟩
  · obtain rfl : n = 0 := by omega
    go_enter Trym.func8, Trym.ntmps8
    go_wp2
    refine wp_loop_rounds 1 ?_
    rw [rounds_succ]
    go_wp2
    go_ret
    exact retQ_yes ⟨fun j hj => by have := HL.out; omega, fun hj => by have := HL.out; omega⟩ (Qu.refl _)
  · have HC := Hid.in hc
    clear hc
    go_enter Trym.func8, Trym.ntmps8
    go_wp2
    go_loopw [7] (fun i wr => ∃ k : Nat, 0 < k ∧ k ≤ n + 1 ∧ i = .int .i64 k ∧ Hid (Qu w wr) ∧ Hid (∀ j, j + 1 < k → zz zs j ≤ zz zs (j + 1))) (fun i _ => n - (intOf i).toNat)
    case atStart => exact ⟨1, by omega, by omega, rfl, Qu.refl _, fun j hj => by omega⟩
    case round =>
      obtain ⟨k, hk0, hk, rfl, HQ, HI⟩ := hrel
      by_cases hlt : k < n
      · obtain ⟨x0, hx0⟩ : ∃ x, x = zz zs (k - 1) := ⟨_, rfl⟩
        obtain ⟨x1, hx1⟩ : ∃ x, x = zz zs k := ⟨_, rfl⟩
        have h0 : wr.cell? ⟨b, off + (k - 1), none⟩ = some (.int .u64 x0) := by rw [hx0]; exact HQ.out.cell (HC.out (k - 1) (by omega))
        have h1 : wr.cell? ⟨b, off + k, none⟩ = some (.int .u64 x1) := by rw [hx1]; exact HQ.out.cell (HC.out k hlt)
        have X0 := Hid.in hx0
        have X1 := Hid.in hx1
        clear hx0 hx1
        have hi0 : (k : Int) < (n : Int) := by omega
        have hi1 : (0 : Int) ≤ (k : Int) - 1 := by omega
        have hi2 : (k : Int) - 1 < (n : Int) := by omega
        by_cases hx : x1 < x0
        · go_wp2
          go_quiet (fail)
          go_wp2
          go_ret
          exact retQ_no (fun hd => asc_bad HL.out hlt hk0 X0.out X1.out hx hd.1) (HQ.out.drewN _)
        · go_wp2
          go_quiet (fail)
          go_wp2
          go_roundw
          case rel => exact ⟨k + 1, by omega, by omega, by go_num, HQ.out.drewN _, fun j hj => by
            by_cases hjk : j + 1 = k
            · rw [hjk, ← X1.out, show j = k - 1 from by omega, ← X0.out]; omega
            · exact HI.out j (by omega)⟩
          case measure => simp [intOf]; omega
      · have HA : Hid (Asc zs) := fun j hj => HI.out j (by have := HL.out; omega)
        clear HI
        by_cases hn0 : n = 0
        · subst hn0
          go_wp2
          go_ret
          exact retQ_yes ⟨HA.out, fun hj => by have := HL.out; omega⟩ HQ.out
        · have hp : 0 < n := by omega
          have hi1 : (0 : Int) ≤ (n : Int) - 1 := by omega
          have hi2 : (n : Int) - 1 < (n : Int) := by omega
          obtain ⟨x0, hx0⟩ : ∃ x, x = zz zs 0 := ⟨_, rfl⟩
          obtain ⟨x1, hx1⟩ : ∃ x, x = zz zs (n - 1) := ⟨_, rfl⟩
          have h0 : wr.cell? ⟨b, off, none⟩ = some (.int .u64 x0) := by rw [hx0]; exact HQ.out.cell (HC.out 0 (by omega))
          have h1 : wr.cell? ⟨b, off + (n - 1), none⟩ = some (.int .u64 x1) := by rw [hx1]; exact HQ.out.cell (HC.out (n - 1) (by omega))
          have X0 := Hid.in hx0
          have X1 := Hid.in hx1
          clear hx0 hx1 hn0
          by_cases c0 : x0 < lo
          · go_wp2
            go_ret
            exact retQ_no (fun hd => by have := (hd.2 (by have := HL.out; omega)).1; rw [← X0.out] at this; omega) HQ.out
          · have c0d : decide (x0 < lo) = false := decide_eq_false c0
            by_cases c1 : hi < x1
            · go_wp2
              go_ret
              exact retQ_no (fun hd => by have := (hd.2 (by have := HL.out; omega)).2; rw [HL.out, ← X1.out] at this; omega) HQ.out
            · have c1d : decide (hi < x1) = false := decide_eq_false c1
              go_wp2
              go_ret
              exact retQ_yes ⟨HA.out, fun _ => ⟨by rw [← X0.out]; omega, by rw [HL.out, ← X1.out]; omega⟩⟩ HQ.out

set_option maxHeartbeats 400000 in
theorem cloneKeys_any (a : Option Addr) (n c : Nat) (ss : List Int) (w : World) (h : Row w a n (intV .u64 ss)) (hl : ss.length = n) (hn : n ≤ 4194304) :
    Calls Trym.prog 9 #[.slice a n c] w (RetRow w 23 n (ss.map (Value.int .u64))) := by
  have HL : Hid (ss.length = n) := hl
  clear hl
  obtain ⟨i0, hi, hz0, hz1, hz2⟩ := info_parts Trym.info23
  have hq := fun (x : Option Addr) (n c : Nat) (w : World) => Lib.run_eql_slice_nil (P := Trym.prog) w 22 23 x n c 0 0 Trym.underlying22
  have hb2 : i0.bytes * n ≤ 281474976710656 := by rw [hz2]; omega
  rcases h with h0 | ⟨b, off, rfl, hc⟩
  · obtain rfl : n = 0 := by omega
    have hs0 : ss = [] := List.length_eq_zero_iff.1 HL.out
    subst hs0
    clear h0 HL
    cases a with
    | none =>
      go_enter Trym.func9, Trym.ntmps9
      go_wp2
      go_ret
      exact ⟨_, rfl, World.ownsRow_nil _ _ _ _, Below.refl _ _⟩
    | some x =>
      go_enter Trym.func9, Trym.ntmps9
      go_wp2_with (at_make; refine wpList_make_full _ rfl _ _ 22 rfl w.heap.size 23 i0 (.int .u64 0) 1 Trym.underlying22 hi hz0 hz1 _ _ _ _ 0 rfl rfl rfl rfl hb2 (by decide) (Nat.le_refl _) ?_; intro w1 hown hgrow)
      refine wp_loop_rounds 1 ?_
      rw [rounds_succ]
      go_wp2
      go_ret
      exact ⟨_, rfl, by simpa [madeCells] using hown, (Below.refl _ _).grown hgrow (Nat.le_refl _) (fun k hk => by cases hk)⟩
  · go_enter Trym.func9, Trym.ntmps9
    go_wp2_with (at_make; refine wpList_make_full _ rfl _ _ 22 rfl w.heap.size 23 i0 (.int .u64 0) 1 Trym.underlying22 hi hz0 hz1 _ _ _ _ n rfl rfl rfl rfl hb2 (by unfold maxLen; omega) (Nat.le_refl _) ?_; intro w1 hown hgrow)
    go_loopw [4] (fun i wr => ∃ k : Nat, k ≤ n ∧ i = .int .i64 k ∧ wr.ownsRow w.heap.size 23 1 (.slice (some ⟨w.heap.size, 0, none⟩) n n) n ((ss.take k).map (Value.int .u64) ++ List.replicate (n - k) (.int .u64 0)) ∧ Below w.heap.size w wr) (fun i _ => n - (intOf i).toNat)
    case atStart => exact ⟨0, Nat.zero_le _, rfl, clone_start hown rfl, (Below.refl _ _).grown hgrow (Nat.le_refl _) (fun k hk => by cases hk)⟩
    case round =>
      obtain ⟨k, hk, rfl, hown, hnx⟩ := hrel
      by_cases hlt : k < n
      · have hck : wr.cell? ⟨b, off + k, none⟩ = some ((Value.int .u64) (ss.getD k 0)) := (cell_later hnx (hc k hlt))
        have hok : wr.cell? ⟨w.heap.size, k, none⟩ = some (.int .u64 0) := clone_cell hown HL.out hlt
        have hfr : wr.frozen? ⟨w.heap.size, k, none⟩ = false := hown.frozenAt k
        have R := clone_step hown HL.out hlt (ss.getD k 0) rfl
        generalize ss.getD k 0 = s at hck R
        have RR := Hid.in R
        have HN := Hid.in hnx
        clear hown hnx hc R
        go_wp2
        go_roundw
        case rel => exact ⟨k + 1, by omega, by go_num, RR.out, HN.out.setCell (Nat.le_refl _) _⟩
        case measure => simp [intOf]; omega
      · have hkn : k = n := by omega
        have HO := Hid.in hown
        have HN := Hid.in hnx
        clear hown hnx hc
        go_wp2
        go_ret
        exact ⟨_, rfl, clone_end HO.out HL.out hkn, HN.out⟩

def Cnt (zs : List Int) (x z : Int) : Prop := z = (cnt zs x zs.length : Int)
set_option maxHeartbeats 400000 in
theorem countLess_any (a : Option Addr) (n c : Nat) (zs : List Int) (x : Int) (w : World) (h : Row w a n (intV .u64 zs)) (hl : zs.length = n) (hn : n ≤ 4194304) :
    Calls Trym.prog 11 #[.slice a n c, .int .u64 x] w (RetS w (Cnt zs x)) := by
  have HL := Hid.in hl
  clear hl
  have HC : Hid (Row w a n (intV .u64 zs)) := h
  clear h
  go_enter Trym.func11, Trym.ntmps11
  go_wp2
  go_loop [5, 6] (fun s i => ∃ k m : Nat, k ≤ n ∧ i = .int .i64 k ∧ s = .int .i64 m ∧ m ≤ k ∧ Hid (m = cnt zs x k)) (fun _ i => n - (intOf i).toNat)
  case atStart => exact ⟨0, 0, Nat.zero_le _, rfl, rfl, Nat.le_refl _, rfl⟩
  case round =>
    obtain ⟨k, m, hk, rfl, rfl, hm, HM⟩ := hrel
    by_cases hlt : k < n
    · rcases HC.out with h0 | ⟨b, off, rfl, hc⟩
      · exfalso; omega
      · obtain ⟨y, hy⟩ : ∃ y, y = zz zs k := ⟨_, rfl⟩
        have hcy : w.cell? ⟨b, off + k, none⟩ = some (.int .u64 y) := by rw [hy]; exact hc k hlt
        have Y := Hid.in hy
        clear hy hc
        by_cases hyx : y < x
        · go_wp2
          go_round
          case rel => exact ⟨k + 1, m + 1, by omega, by go_num, by go_num, by omega, by show _ = cnt zs x (k + 1); simp only [cnt]; rw [if_pos (by rw [← Y.out]; omega), HM.out]⟩
          case measure => simp [intOf]; omega
        · go_wp2
          go_round
          case rel => exact ⟨k + 1, m, by omega, by go_num, rfl, by omega, by show _ = cnt zs x (k + 1); simp only [cnt]; rw [if_neg (by rw [← Y.out]; omega), HM.out]; rfl⟩
          case measure => simp [intOf]; omega
    · obtain rfl : k = n := by omega
      go_wp2
      go_ret
      exact ⟨⟨_, rfl, by unfold Cnt; rw [HL.out, ← HM.out]⟩, rfl⟩
end Go.Proofs.Qxb6605205aMods
