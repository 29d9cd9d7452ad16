/-
  Runs: the clone of pairs; min, max; zzRunsOf, zzPairsOf; plus; unended; ZZUnended.
-/
import Derived.Test.Qxb6603923aModsRuns1
namespace Go.Proofs.Qxb6603923aMods
open Go.RowKit

def flat (ps : List (Int × Int)) : List Value := ps.flatMap fun p => [.int .u64 p.1, .int .u64 p.2]
theorem flat_app (l r : List (Int × Int)) : flat (l ++ r) = flat l ++ flat r := by simp [flat]
theorem flat_one (x y : Int) : flat [(x, y)] = [.int .u64 x, .int .u64 y] := rfl
theorem flat_len (ps : List (Int × Int)) : (flat ps).length = ps.length * 2 := by
  induction ps with
  | nil => rfl
  | cons p r ih => have e : flat (p :: r) = .int .u64 p.1 :: .int .u64 p.2 :: flat r := rfl; rw [e]; simp [ih]; omega
theorem flat_at (ps : List (Int × Int)) : ∀ j, j < ps.length → (flat ps)[j * 2]? = some (.int .u64 (pf ps j)) ∧ (flat ps)[j * 2 + 1]? = some (.int .u64 (pe ps j)) := by
  induction ps with
  | nil => intro j hj; simp at hj
  | cons p r ih =>
    intro j hj
    have e : flat (p :: r) = .int .u64 p.1 :: .int .u64 p.2 :: flat r := rfl
    rw [e]
    cases j with
    | zero => exact ⟨rfl, rfl⟩
    | succ j =>
      have h := ih j (by simpa using hj)
      have e1 : (j + 1) * 2 = j * 2 + 1 + 1 := by omega
      rw [e1]
      simpa [pf, pe] using h

theorem Trym.info32 : (Trym.prog.info? 32).map (fun i => (i.zero, i.size, i.bytes)) = some (some (.agg #[.int .u64 0, .int .u64 0]), 2, 16) := by kernel_rfl
theorem Trym.info67 : (Trym.prog.info? 67).map (fun i => (i.zero, i.size, i.bytes)) = some (some (.agg #[.int .u64 0, .int .u64 0]), 2, 16) := by kernel_rfl

/-- A slice value that owns the pairs ps. -/
theorem prow_of_owns {w : World} {B : Nat} {e : TypeId} {v : Value} {n : Nat} {ps : List (Int × Int)} (h : w.ownsRow B e 2 v n (flat ps)) : ∃ a c, v = .slice a n c ∧ PRow w a n ps := by
  have hl := h.1
  rw [flat_len] at hl
  rcases h.2 with ⟨rfl, rfl⟩ | ⟨g, cap, cur, rfl, _⟩
  · exact ⟨none, 0, rfl, .inl (Nat.le_refl _)⟩
  · refine ⟨_, cap, rfl, .inr ⟨g, 0, rfl, fun j hj => ?_⟩⟩
    have h1 := flat_at ps j (by omega)
    rw [Nat.zero_add, h.cellAt _ (by omega), h.cellAt _ (by omega)]
    exact h1

def RetP2 (w : World) (e : TypeId) (n : Nat) (ps : List (Int × Int)) (en : Ending) (w' : World) : Prop := ∃ v, en = .returned v ∧ w'.ownsRow w.heap.size e 2 v n (flat ps) ∧ Below w.heap.size w w'

theorem pclone_start {w : World} {B n : Nat} {e : TypeId} {v : Value} (h : w.ownsRow B e 2 v n (madeCells #[.int .u64 0, .int .u64 0] (n * 2)).toList) {ps : List (Int × Int)} :
    w.ownsRow B e 2 v n (flat (ps.take 0) ++ List.replicate ((n - 0) * 2) (.int .u64 0)) := by
  have e1 : (madeCells #[Value.int .u64 0, Value.int .u64 0] (n * 2)).toList = List.replicate (n * 2) (.int .u64 0) := by
    apply List.ext_getElem?
    intro j
    by_cases hj : j < n * 2
    · have : j % 2 = 0 ∨ j % 2 = 1 := by omega
      rcases this with h | h <;> simp [madeCells, hj, h]
    · simp [madeCells, hj]
  rw [e1] at h
  simpa [flat] using h

theorem pclone_cell {w : World} {B n g k : Nat} {e : TypeId} {ps : List (Int × Int)} (h : w.ownsRow B e 2 (.slice (some ⟨g, 0, none⟩) n n) n (flat (ps.take k) ++ List.replicate ((n - k) * 2) (.int .u64 0))) (hl : ps.length = n) (hlt : k < n) :
    w.cell? ⟨g, k * 2, none⟩ = some (.int .u64 0) ∧ w.cell? ⟨g, k * 2 + 1, none⟩ = some (.int .u64 0) := by
  have e1 : (flat (ps.take k)).length = k * 2 := by rw [flat_len]; simp; omega
  rw [h.cellAt _ (by omega), h.cellAt _ (by omega), List.getElem?_append_right (by omega), List.getElem?_append_right (by omega), List.getElem?_replicate, List.getElem?_replicate, if_pos (by omega), if_pos (by omega)]
  exact ⟨rfl, rfl⟩

theorem pclone_step {w : World} {B n g k : Nat} {e : TypeId} {ps : List (Int × Int)} {x0 x1 : Int} (h : w.ownsRow B e 2 (.slice (some ⟨g, 0, none⟩) n n) n (flat (ps.take k) ++ List.replicate ((n - k) * 2) (.int .u64 0))) (hl : ps.length = n) (hlt : k < n) (h0 : x0 = pf ps k) (h1 : x1 = pe ps k) :
    ((w.setCell ⟨g, k * 2, none⟩ (.int .u64 x0)).setCell ⟨g, k * 2 + 1, none⟩ (.int .u64 x1)).ownsRow B e 2 (.slice (some ⟨g, 0, none⟩) n n) n (flat (ps.take (k + 1)) ++ List.replicate ((n - (k + 1)) * 2) (.int .u64 0)) := by
  have hs := ((h.stored (k * 2) (.int .u64 x0)).1.stored (k * 2 + 1) (.int .u64 x1)).1
  have e1 : (flat (ps.take k)).length = k * 2 := by rw [flat_len]; simp; omega
  have e2 : ((flat (ps.take k) ++ List.replicate ((n - k) * 2) (Value.int .u64 0)).set (k * 2) (.int .u64 x0)).set (k * 2 + 1) (.int .u64 x1) = flat (ps.take (k + 1)) ++ List.replicate ((n - (k + 1)) * 2) (.int .u64 0) := by
    rw [List.set_append_right _ _ (by omega), List.set_append_right _ _ (by omega), e1, Nat.sub_self, show k * 2 + 1 - k * 2 = 1 from by omega, show (n - k) * 2 = (n - (k + 1)) * 2 + 1 + 1 from by omega, List.replicate_succ, List.replicate_succ, List.set_cons_zero, List.set_cons_succ, List.set_cons_zero, take_pair ps (by omega), flat_app, flat_one, h0, h1]
    simp
  rwa [e2] at hs

set_option maxHeartbeats 400000 in
theorem clonePairs_any (a : Option Addr) (n c : Nat) (ps : List (Int × Int)) (w : World) (h : PRow w a n ps) (hl : ps.length = n) (hn : n ≤ 4194304) :
    Calls Trym.prog 10 #[.slice a n c] w (RetP2 w 32 n ps) := by
  have HL := Hid.in hl
  clear hl
  obtain ⟨i0, hi, hz0, hz1, hz2⟩ := info_parts Trym.info32
  have hq := fun (x : Option Addr) (n c : Nat) (w : World) => Lib.run_eql_slice_nil (P := Trym.prog) w 22 32 x n c 0 0 Trym.underlying22
  have hb2 : i0.bytes * n ≤ 281474976710656 := by rw [hz2]; omega
  rcases h with h0 | ⟨b, off, rfl, hc⟩
  · obtain rfl : n = 0 := by omega
    have : ps = [] := List.length_eq_zero_iff.1 HL.out
    subst this
    cases a with
    | none =>
      go_enter Trym.func10, Trym.ntmps10
      go_wp2
      go_ret
      exact ⟨_, rfl, World.ownsRow_nil _ _ _ _, Below.refl _ _⟩
    | some x =>
      go_enter Trym.func10, Trym.ntmps10
      go_wp2_with (at_make; refine wpList_make_full _ rfl _ _ 22 rfl w.heap.size 32 i0 (.agg #[.int .u64 0, .int .u64 0]) 2 Trym.underlying22 hi hz0 hz1 _ _ _ _ 0 rfl rfl rfl rfl hb2 (by decide) (Nat.le_refl _) ?_; intro w1 hown hgrow)
      refine wp_loop_rounds 1 ?_
      rw [rounds_succ]
      go_wp2
      go_ret
      exact ⟨_, rfl, by simpa [madeCells, flat] using hown, (Below.refl _ _).grown hgrow (Nat.le_refl _) (fun k hk => by cases hk)⟩
  · have HC := Hid.in hc
    clear hc
    go_enter Trym.func10, Trym.ntmps10
    go_wp2_with (at_make; refine wpList_make_full _ rfl _ _ 22 rfl w.heap.size 32 i0 (.agg #[.int .u64 0, .int .u64 0]) 2 Trym.underlying22 hi hz0 hz1 _ _ _ _ n rfl rfl rfl rfl hb2 (by unfold maxLen; omega) (Nat.le_refl _) ?_; intro w1 hown hgrow)
    go_loopw [4] (fun i wr => ∃ k : Nat, k ≤ n ∧ i = .int .i64 k ∧ wr.ownsRow w.heap.size 32 2 (.slice (some ⟨w.heap.size, 0, none⟩) n n) n (flat (ps.take k) ++ List.replicate ((n - k) * 2) (.int .u64 0)) ∧ Below w.heap.size w wr) (fun i _ => n - (intOf i).toNat)
    case atStart => exact ⟨0, Nat.zero_le _, rfl, pclone_start hown, (Below.refl _ _).grown hgrow (Nat.le_refl _) (fun k hk => by cases hk)⟩
    case round =>
      obtain ⟨k, hk, rfl, hown, hnx⟩ := hrel
      by_cases hlt : k < n
      · obtain ⟨x0, hx0⟩ : ∃ x, x = pf ps k := ⟨_, rfl⟩
        obtain ⟨x1, hx1⟩ : ∃ x, x = pe ps k := ⟨_, rfl⟩
        have h0 : wr.cell? ⟨b, off + k * 2, none⟩ = some (.int .u64 x0) := by rw [hx0]; exact cell_later hnx (HC.out k hlt).1
        have h1 : wr.cell? ⟨b, off + k * 2 + 1, none⟩ = some (.int .u64 x1) := by rw [hx1]; exact cell_later hnx (HC.out k hlt).2
        have X0 := Hid.in hx0
        have X1 := Hid.in hx1
        have HO := Hid.in hown
        have HN := Hid.in hnx
        obtain ⟨d0, d1⟩ := pclone_cell hown HL.out hlt
        have e0 : wr.frozen? ⟨w.heap.size, k * 2, none⟩ = false := hown.frozenAt _
        have e1 : wr.frozen? ⟨w.heap.size, k * 2 + 1, none⟩ = false := hown.frozenAt _
        have R := Hid.in (pclone_step hown HL.out hlt hx0 hx1)
        clear hx0 hx1 hown hnx
        go_wp2
        go_roundw
        case rel => exact ⟨k + 1, by omega, by go_num, R.out, (HN.out.setCell (Nat.le_refl _) _).setCell (Nat.le_refl _) _⟩
        case measure => simp [intOf]; omega
      · have hkn : k = n := by omega
        have HO := Hid.in hown
        have HN := Hid.in hnx
        have HK := Hid.in hkn
        clear hown hnx hkn
        go_wp2
        go_ret
        exact ⟨_, rfl, by have := HO.out; rw [HK.out, Nat.sub_self, List.take_of_length_le (by have := HL.out; omega)] at this; simpa using this, HN.out⟩

/-! ### min, max -/
theorem minU_any (x y : Int) (w : World) : Calls Trym.prog 18 #[.int .u64 x, .int .u64 y] w fun e w' => e = .returned (.int .u64 (min x y)) ∧ w' = w := by
  by_cases h : x < y
  · have e : min x y = x := by omega
    rw [e]
    clear e
    go_enter Trym.func18, Trym.ntmps18
    go_wp2
    go_ret
    exact ⟨rfl, rfl⟩
  · have e : min x y = y := by omega
    rw [e]
    clear e
    go_enter Trym.func18, Trym.ntmps18
    go_wp2
    go_ret
    exact ⟨rfl, rfl⟩
theorem maxU_any (x y : Int) (w : World) : Calls Trym.prog 19 #[.int .u64 x, .int .u64 y] w fun e w' => e = .returned (.int .u64 (max x y)) ∧ w' = w := by
  by_cases h : y < x
  · have e : max x y = x := by omega
    rw [e]
    clear e
    go_enter Trym.func19, Trym.ntmps19
    go_wp2
    go_ret
    exact ⟨rfl, rfl⟩
  · have e : max x y = y := by omega
    rw [e]
    clear e
    go_enter Trym.func19, Trym.ntmps19
    go_wp2
    go_ret
    exact ⟨rfl, rfl⟩

/-! ### zzRunsOf, zzPairsOf -/
theorem pair_oneCell (x y : Int) : ∀ u ∈ [Value.int .u64 x, Value.int .u64 y], u.oneCell' = true := by
  intro u hu
  simp at hu
  rcases hu with rfl | rfl <;> rfl
theorem cell_pair_new (w : World) (x y : Value) (t : TypeId) : ∀ j u, [x, y][j]? = some u → (w.alloc (.cells #[x, y] t)).cell? ((⟨w.heap.size, 0, none⟩ : Addr).add j) = some u := by
  intro j u hj
  match j, hj with
  | 0, hj => simp at hj; subst hj; simp [Addr.add]
  | 1, hj => simp at hj; subst hj; simp [Addr.add]

theorem cell_pair_new' (w : World) (x y : Value) (t : TypeId) (g : Nat) (hg : w.heap.size = g) : ∀ j u, [x, y][j]? = some u → (w.alloc (.cells #[x, y] t)).cell? ((⟨g, 0, none⟩ : Addr).add j) = some u := by
  subst hg; exact cell_pair_new w x y t
theorem runs_step {ps : List (Int × Int)} {n k B : Nat} {x0 x1 : Int} {e : TypeId} {w : World} {v : Value} (hl : ps.length = n) (hk : k < n) (h0 : x0 = pf ps k) (h1 : x1 = pe ps k) (h : w.ownsRow B e 2 v (k + 1) (flat (ps.take k) ++ [.int .u64 x0, .int .u64 x1])) : w.ownsRow B e 2 v (k + 1) (flat (ps.take (k + 1))) := by
  rw [take_pair ps (by omega), flat_app, flat_one, ← h0, ← h1]; exact h
theorem runs_end {ps : List (Int × Int)} {n k B : Nat} {e : TypeId} {w : World} {v : Value} (h : w.ownsRow B e 2 v k (flat (ps.take k))) (hl : ps.length = n) (hk : k = n) : w.ownsRow B e 2 v n (flat ps) := by
  subst hk
  rwa [List.take_of_length_le (by omega)] at h
theorem below_grown2 {B : Nat} {w w1 w2 : World} {v : Value} {e : TypeId} {s n : Nat} {xs : List Value} (h : Below B w w1) (hg : w1.grownBy w2 v.ownBlock) (ho : w1.ownsRow B e s v n xs) (hB : B ≤ w.heap.size) : Below B w w2 :=
  h.grown hg (Nat.le_trans hB h.size) (fun k hk => (ho.lt k hk).1)

set_option maxHeartbeats 800000 in
theorem runsOf_any (a : Option Addr) (n c : Nat) (ps : List (Int × Int)) (w : World) (h : PRow w a n ps) (hl : ps.length = n) (hn : n ≤ 4194304) :
    Calls Trym.prog 32 #[.slice a n c] w (RetP2 w 67 n ps) := by
  have HL := Hid.in hl
  clear hl
  obtain ⟨i0, hi, hz0, hz1, hz2⟩ := info_parts Trym.info67
  rcases h with h0 | ⟨b, off, rfl, hc⟩
  · obtain rfl : n = 0 := by omega
    have : ps = [] := List.length_eq_zero_iff.1 HL.out
    subst this
    go_enter Trym.func32, Trym.ntmps32
    go_wp2
    refine wp_loop_rounds 1 ?_
    rw [rounds_succ]
    go_wp2
    go_ret
    exact ⟨_, rfl, World.ownsRow_nil _ _ _ _, Below.refl _ _⟩
  · have HC := Hid.in hc
    clear hc
    go_enter Trym.func32, Trym.ntmps32
    go_wp2
    go_loopw [3, 8] (fun v i wr => ∃ k : Nat, k ≤ n ∧ i = .int .i64 k ∧ wr.ownsRow w.heap.size 67 2 v k (flat (ps.take k)) ∧ Below w.heap.size w wr) (fun _ i _ => n - (intOf i).toNat)
    case atStart => exact ⟨0, Nat.zero_le _, rfl, World.ownsRow_nil _ _ _ _, Below.refl _ _⟩
    case round =>
      obtain ⟨k, hk, rfl, hown, hnx⟩ := hrel
      obtain ⟨e0, f0, rfl, _⟩ := prow_of_owns hown
      have HO := Hid.in hown
      have HN := Hid.in hnx
      clear hown hnx
      by_cases hlt : k < n
      · obtain ⟨x0, hx0⟩ : ∃ x, x = pf ps k := ⟨_, rfl⟩
        obtain ⟨x1, hx1⟩ : ∃ x, x = pe ps k := ⟨_, rfl⟩
        have h0 : wr.cell? ⟨b, off + k * 2, none⟩ = some (.int .u64 x0) := by rw [hx0]; exact cell_later HN.out (HC.out k hlt).1
        have h1 : wr.cell? ⟨b, off + k * 2 + 1, none⟩ = some (.int .u64 x1) := by rw [hx1]; exact cell_later HN.out (HC.out k hlt).2
        have X0 := Hid.in hx0
        have X1 := Hid.in hx1
        have hsz : w.heap.size ≤ wr.heap.size := HN.out.size
        clear hx0 hx1
        go_wp2_with (at_builtin; refine wpList_append_own _ rfl _ _ 57 rfl w.heap.size 67 i0 (.agg #[.int .u64 0, .int .u64 0]) 2 16 Trym.underlying57 hi hz0 hz1 hz2 rfl (by decide) _ _ _ rfl ((HO.out.alloc _).alloc _) ⟨wr.heap.size + 1, 0, none⟩ 1 1 [.int .u64 x0, .int .u64 x1] rfl rfl (cell_pair_new' _ _ _ _ _ (by simp)) (pair_oneCell x0 x1) (by unfold maxLen; omega) (by omega) (by simp; omega) ?_; intro v5 w5 hown5 hgrow5 hx5; clear hx5; have HR5 := Hid.in (runs_step HL.out hlt X0.out X1.out hown5); have HB5 := Hid.in (below_grown2 ((HN.out.alloc hsz _).alloc (by simp; omega) _) hgrow5 ((HO.out.alloc _).alloc _) (Nat.le_refl _)); clear hown5 hgrow5)
        go_roundw
        case rel => exact ⟨k + 1, by omega, by go_num, HR5.out, HB5.out⟩
        case measure => simp [intOf]; omega
      · have hkn : k = n := by omega
        have HK := Hid.in hkn
        clear hkn
        go_wp2
        go_ret
        exact ⟨_, rfl, runs_end HO.out HL.out HK.out, HN.out⟩
set_option maxHeartbeats 800000 in
theorem pairsOf_any (a : Option Addr) (n c : Nat) (ps : List (Int × Int)) (w : World) (h : PRow w a n ps) (hl : ps.length = n) (hn : n ≤ 4194304) :
    Calls Trym.prog 31 #[.slice a n c] w (RetP2 w 32 n ps) := by
  have HL := Hid.in hl
  clear hl
  obtain ⟨i0, hi, hz0, hz1, hz2⟩ := info_parts Trym.info32
  rcases h with h0 | ⟨b, off, rfl, hc⟩
  · obtain rfl : n = 0 := by omega
    have : ps = [] := List.length_eq_zero_iff.1 HL.out
    subst this
    go_enter Trym.func31, Trym.ntmps31
    go_wp2
    refine wp_loop_rounds 1 ?_
    rw [rounds_succ]
    go_wp2
    go_ret
    exact ⟨_, rfl, World.ownsRow_nil _ _ _ _, Below.refl _ _⟩
  · have HC := Hid.in hc
    clear hc
    go_enter Trym.func31, Trym.ntmps31
    go_wp2
    go_loopw [3, 8] (fun v i wr => ∃ k : Nat, k ≤ n ∧ i = .int .i64 k ∧ wr.ownsRow w.heap.size 32 2 v k (flat (ps.take k)) ∧ Below w.heap.size w wr) (fun _ i _ => n - (intOf i).toNat)
    case atStart => exact ⟨0, Nat.zero_le _, rfl, World.ownsRow_nil _ _ _ _, Below.refl _ _⟩
    case round =>
      obtain ⟨k, hk, rfl, hown, hnx⟩ := hrel
      obtain ⟨e0, f0, rfl, _⟩ := prow_of_owns hown
      have HO := Hid.in hown
      have HN := Hid.in hnx
      clear hown hnx
      by_cases hlt : k < n
      · obtain ⟨x0, hx0⟩ : ∃ x, x = pf ps k := ⟨_, rfl⟩
        obtain ⟨x1, hx1⟩ : ∃ x, x = pe ps k := ⟨_, rfl⟩
        have h0 : wr.cell? ⟨b, off + k * 2, none⟩ = some (.int .u64 x0) := by rw [hx0]; exact cell_later HN.out (HC.out k hlt).1
        have h1 : wr.cell? ⟨b, off + k * 2 + 1, none⟩ = some (.int .u64 x1) := by rw [hx1]; exact cell_later HN.out (HC.out k hlt).2
        have X0 := Hid.in hx0
        have X1 := Hid.in hx1
        have hsz : w.heap.size ≤ wr.heap.size := HN.out.size
        clear hx0 hx1
        go_wp2_with (at_builtin; refine wpList_append_own _ rfl _ _ 22 rfl w.heap.size 32 i0 (.agg #[.int .u64 0, .int .u64 0]) 2 16 Trym.underlying22 hi hz0 hz1 hz2 rfl (by decide) _ _ _ rfl ((HO.out.alloc _).alloc _) ⟨wr.heap.size + 1, 0, none⟩ 1 1 [.int .u64 x0, .int .u64 x1] rfl rfl (cell_pair_new' _ _ _ _ _ (by simp)) (pair_oneCell x0 x1) (by unfold maxLen; omega) (by omega) (by simp; omega) ?_; intro v5 w5 hown5 hgrow5 hx5; clear hx5; have HR5 := Hid.in (runs_step HL.out hlt X0.out X1.out hown5); have HB5 := Hid.in (below_grown2 ((HN.out.alloc hsz _).alloc (by simp; omega) _) hgrow5 ((HO.out.alloc _).alloc _) (Nat.le_refl _)); clear hown5 hgrow5)
        go_roundw
        case rel => exact ⟨k + 1, by omega, by go_num, HR5.out, HB5.out⟩
        case measure => simp [intOf]; omega
      · have hkn : k = n := by omega
        have HK := Hid.in hkn
        clear hkn
        go_wp2
        go_ret
        exact ⟨_, rfl, runs_end HO.out HL.out HK.out, HN.out⟩
end Go.Proofs.Qxb6603923aMods
