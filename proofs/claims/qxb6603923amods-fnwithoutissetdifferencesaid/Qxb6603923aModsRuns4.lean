/-
  Slices of uint64: zzAscending, zzLowerBound, slices.BinarySearch, the clone; without; ZZWithout.
-/
import Derived.Test.Qxb6603923aModsRuns3
import Derived.Test.Qxb6603923aModsRunsPlain2
namespace Go.Proofs.Qxb6603923aMods
open Go.RowKit

theorem Trym.info31 : (Trym.prog.info? 31).map (fun i => (i.zero, i.size, i.bytes)) = some (some (.int .u64 0), 1, 8) := by kernel_rfl

theorem asc_bad {zs : List Int} {n k : Nat} {x0 x1 : Int} (hl : zs.length = n) (hk : k < n) (hk0 : 0 < k) (h0 : x0 = zz zs (k - 1)) (h1 : x1 = zz zs k) (hx : x1 < x0) : ¬ Asc zs := fun h => by
  have := h (k - 1) (by omega)
  rw [show k - 1 + 1 = k from by omega] at this
  omega

set_option maxHeartbeats 1000000 in
theorem ascending_any (a : Option Addr) (n c : Nat) (zs : List Int) (w : World) (h : Row w a n (intV .u64 zs)) (hl : zs.length = n) (hn : n ≤ 4194304) :
    Calls Trym.prog 9 #[.slice a n c] w (RetQ w (Asc zs)) := by
  have HL := Hid.in hl
  clear hl
  rcases h with h0 | ⟨b, off, rfl, hc⟩
  · obtain rfl : n = 0 := by omega
    go_enter Trym.func9, Trym.ntmps9
    go_wp2
    refine wp_loop_rounds 1 ?_
    rw [rounds_succ]
    go_wp2
    go_ret
    exact retQ_yes (fun j hj => by have := HL.out; omega) (Qu.refl _)
  · have HC := Hid.in hc
    clear hc
    go_enter Trym.func9, Trym.ntmps9
    go_wp2
    go_loopw [3] (fun i wr => ∃ k : Nat, 0 < k ∧ k ≤ n + 1 ∧ i = .int .i64 k ∧ Hid (Qu w wr) ∧ Hid (∀ j, j + 1 < k → zz zs j ≤ zz zs (j + 1))) (fun i _ => n - (intOf i).toNat)
    case atStart => exact ⟨1, by omega, by omega, rfl, Qu.refl _, fun j hj => by omega⟩
    case round =>
      obtain ⟨k, hk0, hk, rfl, HQ, HI⟩ := hrel
      by_cases hlt : k < n
      · obtain ⟨x0, hx0⟩ : ∃ x, x = zz zs (k - 1) := ⟨_, rfl⟩
        obtain ⟨x1, hx1⟩ : ∃ x, x = zz zs k := ⟨_, rfl⟩
        have h0 : wr.cell? ⟨b, off + (k - 1), none⟩ = some (.int .u64 x0) := by rw [hx0]; exact HQ.out.cell (HC.out (k - 1) (by omega))
        have h1 : wr.cell? ⟨b, off + k, none⟩ = some (.int .u64 x1) := by rw [hx1]; exact HQ.out.cell (HC.out k hlt)
        have X0 := Hid.in hx0
        have X1 := Hid.in hx1
        clear hx0 hx1
        have hi0 : (k : Int) < (n : Int) := by omega
        have hi1 : (0 : Int) ≤ (k : Int) - 1 := by omega
        have hi2 : (k : Int) - 1 < (n : Int) := by omega
        by_cases hx : x1 < x0
        · go_wp2
          go_quiet (fail)
          go_wp2
          go_ret
          exact retQ_no (asc_bad HL.out hlt hk0 X0.out X1.out hx) (HQ.out.drewN _)
        · go_wp2
          go_quiet (fail)
          go_wp2
          go_roundw
          case rel => exact ⟨k + 1, by omega, by omega, by go_num, HQ.out.drewN _, fun j hj => by
            by_cases hjk : j + 1 = k
            · rw [hjk, ← X1.out, show j = k - 1 from by omega, ← X0.out]; omega
            · exact HI.out j (by omega)⟩
          case measure => simp [intOf]; omega
      · go_wp2
        go_ret
        exact retQ_yes (fun j hj => HI.out j (by have := HL.out; omega)) HQ.out

def LBZ (zs : List Int) (x z : Int) : Prop := ∃ lo : Nat, LB zs x lo ∧ z = (lo : Int)

set_option maxHeartbeats 1000000 in
theorem lowerBound_any (a : Option Addr) (n c : Nat) (zs : List Int) (x : Int) (w : World) (h : Row w a n (intV .u64 zs)) (hl : zs.length = n) (hr : Asc zs) (hn : n ≤ 4194304) :
    Calls Trym.prog 14 #[.slice a n c, .int .u64 x] w (RetS w (LBZ zs x)) := by
  have HL := Hid.in hl
  have HR := Hid.in hr
  clear hl hr
  rcases h with h0 | ⟨b, off, rfl, hc⟩
  · obtain rfl : n = 0 := by omega
    go_enter Trym.func14, Trym.ntmps14
    go_wp2
    refine wp_loop_rounds 1 ?_
    rw [rounds_succ]
    go_wp2
    go_ret
    exact ⟨⟨_, rfl, 0, ⟨Nat.zero_le _, fun i hi => by omega, fun i _ hi => by have := HL.out; omega⟩, rfl⟩, rfl⟩
  · have HC := Hid.in hc
    clear hc
    have MO : Hid (∀ i j, i ≤ j → j < n → zz zs j < x → zz zs i < x) := fun i j hij hj hp => by
      have := asc_mono HR.out hij (by have := HL.out; omega)
      omega
    go_enter Trym.func14, Trym.ntmps14
    go_wp2
    go_loop [5, 6, 7] (fun lo hi _ => ∃ l h : Nat, l ≤ h ∧ h ≤ n ∧ lo = .int .i64 l ∧ hi = .int .i64 h ∧ Hid (∀ i, i < l → zz zs i < x) ∧ Hid (∀ i, h ≤ i → i < n → ¬ zz zs i < x)) (fun lo hi _ => (intOf hi).toNat - (intOf lo).toNat)
    case atStart => exact ⟨0, n, Nat.zero_le _, Nat.le_refl _, rfl, rfl, fun i hi => by omega, fun i h1 h2 => by omega⟩
    case round =>
      obtain ⟨l, h, hlh, hh, rfl, rfl, HA, HB⟩ := hrel
      by_cases hlt : l < h
      · obtain ⟨y, hy⟩ : ∃ y, y = zz zs (l + (h - l) / 2) := ⟨_, rfl⟩
        have hcy : w.cell? ⟨b, off + (l + (h - l) / 2), none⟩ = some (.int .u64 y) := by rw [hy]; exact HC.out (l + (h - l) / 2) (by omega)
        have Y := Hid.in hy
        clear hy
        by_cases hyx : y < x
        · go_wp2
          go_round
          case rel => exact ⟨l + (h - l) / 2 + 1, h, by omega, hh, by go_num, rfl, search_lo (P := fun i => zz zs i < x) (n := n) MO.out (by omega) (by show zz zs _ < x; rw [← Y.out]; exact hyx), HB.out⟩
          case measure => simp only [intOf]; omega
        · go_wp2
          go_round
          case rel => exact ⟨l, l + (h - l) / 2, by omega, by omega, rfl, by go_num, HA.out, search_hi (P := fun i => zz zs i < x) (n := n) MO.out (by show ¬ zz zs _ < x; rw [← Y.out]; exact hyx)⟩
          case measure => simp only [intOf]; omega
      · obtain rfl : l = h := by omega
        go_wp2
        go_ret
        exact ⟨⟨_, rfl, l, ⟨by have := HL.out; omega, HA.out, fun i h1 h2 => by have := HB.out i h1 (by have := HL.out; omega); omega⟩, rfl⟩, rfl⟩

theorem isNaN41 (x : Int) (w : World) : Calls Trym.prog 41 #[.int .u64 x] w fun e w' => e = .returned (.bool false) ∧ w' = w := by
  have hb : (x != x) = false := by simp
  go_enter Trym.func41, Trym.ntmps41
  go_wp2
  go_ret
  exact ⟨rfl, rfl⟩
theorem isNaN40 (x : Int) (w : World) : Calls Trym.prog 40 #[.int .u64 x] w fun e w' => e = .returned (.bool false) ∧ w' = w := by
  have hb : (x != x) = false := by simp
  go_enter Trym.func40, Trym.ntmps40
  go_wp2
  go_ret
  exact ⟨rfl, rfl⟩
theorem less_any (x y : Int) (w : World) : Calls Trym.prog 39 #[.int .u64 x, .int .u64 y] w fun e w' => e = .returned (.bool (decide (x < y))) ∧ w' = w := by
  go_enter Trym.func39, Trym.ntmps39
  go_wp2_with (go_at_call 41; refine (isNaN41 _ _).mono ?_; rintro e w' ⟨rfl, rfl⟩)
  go_ret
  exact ⟨rfl, rfl⟩

/-- slices.BinarySearch: the index; and some bool. -/
def RetBS (w : World) (zs : List Int) (x : Int) (e : Ending) (w' : World) : Prop := (∃ lo : Nat, ∃ f : Bool, e = .returned (.tuple #[.int .i64 lo, .bool f]) ∧ LB zs x lo) ∧ w' = w

set_option maxHeartbeats 1000000 in
theorem binarySearch_any (a : Option Addr) (n c : Nat) (zs : List Int) (x : Int) (w : World) (h : Row w a n (intV .u64 zs)) (hl : zs.length = n) (hr : Asc zs) (hn : n ≤ 4194304) :
    Calls Trym.prog 36 #[.slice a n c, .int .u64 x] w (RetBS w zs x) := by
  have HL := Hid.in hl
  have HR := Hid.in hr
  clear hl hr
  rcases h with h0 | ⟨b, off, rfl, hc⟩
  · obtain rfl : n = 0 := by omega
    go_enter Trym.func36, Trym.ntmps36
    go_wp2
    refine wp_loop_rounds 1 ?_
    rw [rounds_succ]
    go_wp2
    go_ret2
    exact ⟨⟨0, _, rfl, ⟨Nat.zero_le _, fun i hi => by omega, fun i _ hi => by have := HL.out; omega⟩⟩, rfl⟩
  · have HC := Hid.in hc
    clear hc
    have MO : Hid (∀ i j, i ≤ j → j < n → zz zs j < x → zz zs i < x) := fun i j hij hj hp => by
      have := asc_mono HR.out hij (by have := HL.out; omega)
      omega
    go_enter Trym.func36, Trym.ntmps36
    go_wp2
    go_loop [7, 8, 9] (fun lo hi _ => ∃ l h : Nat, l ≤ h ∧ h ≤ n ∧ lo = .int .i64 l ∧ hi = .int .i64 h ∧ Hid (∀ i, i < l → zz zs i < x) ∧ Hid (∀ i, h ≤ i → i < n → ¬ zz zs i < x)) (fun lo hi _ => (intOf hi).toNat - (intOf lo).toNat)
    case atStart => exact ⟨0, n, Nat.zero_le _, Nat.le_refl _, rfl, rfl, fun i hi => by omega, fun i h1 h2 => by omega⟩
    case round =>
      obtain ⟨l, h, hlh, hh, rfl, rfl, HA, HB⟩ := hrel
      by_cases hlt : l < h
      · obtain ⟨y, hy⟩ : ∃ y, y = zz zs ((l + h) / 2) := ⟨_, rfl⟩
        have hcy : w.cell? ⟨b, off + (l + h) / 2, none⟩ = some (.int .u64 y) := by rw [hy]; exact HC.out ((l + h) / 2) (by omega)
        have Y := Hid.in hy
        clear hy
        by_cases hyx : y < x
        · go_wp2_with (go_at_call 39; refine (less_any _ _ _).mono ?_; rintro e w' ⟨rfl, rfl⟩)
          go_round
          case rel => exact ⟨(l + h) / 2 + 1, h, by omega, hh, by go_num, rfl, search_lo (P := fun i => zz zs i < x) (n := n) MO.out (by omega) (by show zz zs _ < x; rw [← Y.out]; exact hyx), fun i h1 h2 => by have := HB.out i h1 h2; omega⟩
          case measure => simp only [intOf]; omega
        · have hyd : decide (y < x) = false := decide_eq_false hyx
          go_wp2_with (go_at_call 39; refine (less_any _ _ _).mono ?_; rintro e w' ⟨rfl, rfl⟩)
          go_round
          case rel => exact ⟨l, (l + h) / 2, by omega, by omega, rfl, by go_num, HA.out, search_hi (P := fun i => zz zs i < x) (n := n) MO.out (by show ¬ zz zs _ < x; rw [← Y.out]; omega)⟩
          case measure => simp only [intOf]; omega
      · obtain rfl : l = h := by omega
        have HF : Hid (LB zs x l) := ⟨by have := HL.out; omega, HA.out, fun i h1 h2 => by have := HB.out i h1 (by have := HL.out; omega); omega⟩
        by_cases hln : l < n
        · obtain ⟨y, hcy⟩ : ∃ y, w.cell? ⟨b, off + l, none⟩ = some (.int .u64 y) := ⟨_, HC.out l hln⟩
          by_cases hyx : y = x
          · have hyb : (y == x) = true := beq_iff_eq.2 hyx
            clear hyx
            go_wp2
            go_ret2
            exact ⟨⟨l, _, rfl, HF.out⟩, rfl⟩
          · have hyb : (y == x) = false := beq_eq_false_iff_ne.2 hyx
            clear hyx
            go_wp2_with (go_at_call 40; refine (isNaN40 _ _).mono ?_; rintro e w' ⟨rfl, rfl⟩)
            go_ret2
            exact ⟨⟨l, _, rfl, HF.out⟩, rfl⟩
        · go_wp2
          go_ret2
          exact ⟨⟨l, _, rfl, HF.out⟩, rfl⟩

set_option maxHeartbeats 400000 in
theorem cloneU64_any (a : Option Addr) (n c : Nat) (ss : List Int) (w : World) (h : Row w a n (intV .u64 ss)) (hl : ss.length = n) (hn : n ≤ 4194304) :
    Calls Trym.prog 11 #[.slice a n c] w (RetRow w 31 n (ss.map (Value.int .u64))) := by
  have HL : Hid (ss.length = n) := hl
  clear hl
  obtain ⟨i0, hi, hz0, hz1, hz2⟩ := info_parts Trym.info31
  have hq := fun (x : Option Addr) (n c : Nat) (w : World) => Lib.run_eql_slice_nil (P := Trym.prog) w 23 31 x n c 0 0 Trym.underlying23
  have hb2 : i0.bytes * n ≤ 281474976710656 := by rw [hz2]; omega
  rcases h with h0 | ⟨b, off, rfl, hc⟩
  · obtain rfl : n = 0 := by omega
    have hs0 : ss = [] := List.length_eq_zero_iff.1 HL.out
    subst hs0
    clear h0 HL
    cases a with
    | none =>
      go_enter Trym.func11, Trym.ntmps11
      go_wp2
      go_ret
      exact ⟨_, rfl, World.ownsRow_nil _ _ _ _, Below.refl _ _⟩
    | some x =>
      go_enter Trym.func11, Trym.ntmps11
      go_wp2_with (at_make; refine wpList_make_full _ rfl _ _ 23 rfl w.heap.size 31 i0 (.int .u64 0) 1 Trym.underlying23 hi hz0 hz1 _ _ _ _ 0 rfl rfl rfl rfl hb2 (by decide) (Nat.le_refl _) ?_; intro w1 hown hgrow)
      refine wp_loop_rounds 1 ?_
      rw [rounds_succ]
      go_wp2
      go_ret
      exact ⟨_, rfl, by simpa [madeCells] using hown, (Below.refl _ _).grown hgrow (Nat.le_refl _) (fun k hk => by cases hk)⟩
  · go_enter Trym.func11, Trym.ntmps11
    go_wp2_with (at_make; refine wpList_make_full _ rfl _ _ 23 rfl w.heap.size 31 i0 (.int .u64 0) 1 Trym.underlying23 hi hz0 hz1 _ _ _ _ n rfl rfl rfl rfl hb2 (by unfold maxLen; omega) (Nat.le_refl _) ?_; intro w1 hown hgrow)
    go_loopw [4] (fun i wr => ∃ k : Nat, k ≤ n ∧ i = .int .i64 k ∧ wr.ownsRow w.heap.size 31 1 (.slice (some ⟨w.heap.size, 0, none⟩) n n) n ((ss.take k).map (Value.int .u64) ++ List.replicate (n - k) (.int .u64 0)) ∧ Below w.heap.size w wr) (fun i _ => n - (intOf i).toNat)
    case atStart => exact ⟨0, Nat.zero_le _, rfl, clone_start hown rfl, (Below.refl _ _).grown hgrow (Nat.le_refl _) (fun k hk => by cases hk)⟩
    case round =>
      obtain ⟨k, hk, rfl, hown, hnx⟩ := hrel
      by_cases hlt : k < n
      · have hck : wr.cell? ⟨b, off + k, none⟩ = some ((Value.int .u64) (ss.getD k 0)) := (cell_later hnx (hc k hlt))
        have hok : wr.cell? ⟨w.heap.size, k, none⟩ = some (.int .u64 0) := clone_cell hown HL.out hlt
        have hfr : wr.frozen? ⟨w.heap.size, k, none⟩ = false := hown.frozenAt k
        have R := clone_step hown HL.out hlt (ss.getD k 0) rfl
        generalize ss.getD k 0 = s at hck R
        have RR := Hid.in R
        have HN := Hid.in hnx
        clear hown hnx hc R
        go_wp2
        go_roundw
        case rel => exact ⟨k + 1, by omega, by go_num, RR.out, HN.out.setCell (Nat.le_refl _) _⟩
        case measure => simp [intOf]; omega
      · have hkn : k = n := by omega
        have HO := Hid.in hown
        have HN := Hid.in hnx
        clear hown hnx hc
        go_wp2
        go_ret
        exact ⟨_, rfl, clone_end HO.out HL.out hkn, HN.out⟩

def Bnd2 (n m : Nat) (x : Bool) : Prop := x = true → n ≤ 1048576 ∧ m ≤ 1048576
theorem bnd2_no {n m : Nat} : Bnd2 n m false := fun h => by cases h
theorem bytes7_any (a a' : Option Addr) (n c n' c' : Nat) (w : World) (m : n ≤ maxLen) (m' : n' ≤ maxLen) : Calls Trym.prog 7 #[.slice a n c, .slice a' n' c'] w (RetB w (Bnd2 n n')) := by
  unfold maxLen at m m'
  go_enter Trym.func7, Trym.ntmps7
  go_wp2
  all_goals try (go_ret; exact retB false bnd2_no; done)
  go_ret
  exact retB true (fun _ => ⟨by omega, by omega⟩)
end Go.Proofs.Qxb6603923aMods
