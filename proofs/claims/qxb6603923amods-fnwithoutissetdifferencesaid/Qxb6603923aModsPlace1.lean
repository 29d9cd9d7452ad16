/-
  The placement's road: slices.Index, the clones, zzKeySet, zzWellFormed.
-/
import Derived.Test.Qxb6603923aModsBase
import Derived.Maps.OwnSet
namespace Go.Proofs.Qxb6603923aMods
open Go.RowKit Go.Maps

theorem bs_beq_iff (x y : ByteArray) : (x.toList == y.toList) = true ↔ x = y := by
  rw [beq_iff_eq, ByteArray.toList_eq, ByteArray.toList_eq]
  exact ⟨fun h => ByteArray.ext (Array.toList_inj.mp h), fun h => by rw [h]⟩
theorem bs_beq_false_iff (x y : ByteArray) : (x.toList == y.toList) = false ↔ x ≠ y := by
  rw [Ne, ← bs_beq_iff x y, Bool.not_eq_true]

/-- What slices.Index answers. -/
def IdxOf (ss : List ByteArray) (v : ByteArray) (z : Int) : Prop :=
  (z = -1 ∧ ∀ j, j < ss.length → ss.getD j ByteArray.empty ≠ v) ∨ ∃ i : Nat, i < ss.length ∧ z = i ∧ ss.getD i ByteArray.empty = v
def RetI (w : World) (P : Int → Prop) (e : Ending) (w' : World) : Prop := (∃ z : Int, e = .returned (.int .i64 z) ∧ P z) ∧ w' = w
theorem retI {w : World} {P : Int → Prop} (z : Int) (h : P z) : RetI w P (.returned (.int .i64 z)) w := ⟨⟨z, rfl, h⟩, rfl⟩

set_option maxHeartbeats 400000 in
theorem index_any (a : Option Addr) (n c : Nat) (ss : List ByteArray) (v : ByteArray) (w : World) (h : Row w a n (strV ss)) (hl : ss.length = n) (hn : n ≤ 4194304) :
    Calls Trym.prog 38 #[.slice a n c, .string v] w (RetI w (IdxOf ss v)) := by
  have HL : Hid (ss.length = n) := hl
  clear hl
  rcases h with h0 | ⟨b, off, rfl, hc⟩
  · obtain rfl : n = 0 := by omega
    go_enter Trym.func38, Trym.ntmps38
    go_wp2
    refine wp_loop_rounds 1 ?_
    rw [rounds_succ]
    go_wp2
    go_ret
    exact retI (-1) (.inl ⟨rfl, fun j hj => by have := HL.out; omega⟩)
  · go_enter Trym.func38, Trym.ntmps38
    go_wp2
    go_loop [5, 8] (fun _ i => ∃ k : Nat, k ≤ n ∧ i = .int .i64 k ∧ ∀ j, j < k → ss.getD j ByteArray.empty ≠ v) (fun _ i => n - (intOf i).toNat)
    case atStart => exact ⟨0, Nat.zero_le _, rfl, fun j hj => by omega⟩
    case round =>
      obtain ⟨k, hk, rfl, hno⟩ := hrel
      have HN : Hid (∀ j, j < k → ss.getD j ByteArray.empty ≠ v) := hno
      clear hno
      by_cases hlt : k < n
      · have hck : w.cell? ⟨b, off + k, none⟩ = some (.string (ss.getD k ByteArray.empty)) := hc k hlt
        clear hc
        obtain ⟨s, hs⟩ : ∃ s, s = ss.getD k ByteArray.empty := ⟨_, rfl⟩
        rw [← hs] at hck
        have HS : Hid (s = ss.getD k ByteArray.empty) := hs
        clear hs
        go_wp2
        · have he : (v.toList == s.toList) = true := by assumption
          have h1 := (bs_beq_iff v s).1 he
          go_ret
          exact retI k (.inr ⟨k, by have := HL.out; omega, rfl, by rw [← HS.out, h1]⟩)
        · have he : (v.toList == s.toList) = false := by assumption
          have h1 := (bs_beq_false_iff v s).1 he
          go_round
          case rel => exact ⟨k + 1, by omega, by go_num, fun j hj => by
            by_cases hjk : j = k
            · subst hjk; rw [← HS.out]; exact fun h => h1 h.symm
            · exact HN.out j (by omega)⟩
          case measure => simp [intOf]; omega
      · go_wp2
        go_ret
        exact retI (-1) (.inl ⟨rfl, fun j hj => HN.out j (by have := HL.out; omega)⟩)

theorem Trym.info9 : (Trym.prog.info? 9).map (fun i => (i.zero, i.size, i.bytes)) = some (some (.string ByteArray.empty), 1, 16) := by kernel_rfl
theorem Trym.info3 : (Trym.prog.info? 3).map (fun i => (i.zero, i.size, i.bytes)) = some (some (.int .i64 0), 1, 8) := by kernel_rfl
theorem Trym.info5 : (Trym.prog.info? 5).map (fun i => (i.zero, i.size, i.bytes)) = some (some (.int .u8 0), 1, 1) := by kernel_rfl

/-- A new slice of n elements (one cell each), the call's own. -/
def RetRow (w : World) (e : TypeId) (n : Nat) (xs : List Value) (en : Ending) (w' : World) : Prop := ∃ v, en = .returned v ∧ w'.ownsRow w.heap.size e 1 v n xs ∧ Below w.heap.size w w'

theorem clone_start {w : World} {B n : Nat} {e : TypeId} {v z : Value} (h : w.ownsRow B e 1 v n (madeCells z.cells (n * 1)).toList) {α : Type} {ss : List α} {f : α → Value} (hz : z.cells = #[z]) :
    w.ownsRow B e 1 v n ((ss.take 0).map f ++ List.replicate (n - 0) z) := by
  rw [hz, Nat.mul_one, toList_madeCells_one] at h
  simpa using h

theorem clone_cell {w : World} {B n g k : Nat} {e : TypeId} {z : Value} {α : Type} {ss : List α} {f : α → Value} (h : w.ownsRow B e 1 (.slice (some ⟨g, 0, none⟩) n n) n ((ss.take k).map f ++ List.replicate (n - k) z)) (hl : ss.length = n) (hlt : k < n) :
    w.cell? ⟨g, k, none⟩ = some z := by
  rw [h.cellAt k (by omega), List.getElem?_append_right (by simp; omega), List.getElem?_replicate, if_pos (by simp; omega)]

theorem clone_step {w : World} {B n g k : Nat} {e : TypeId} {z : Value} {α : Type} {ss : List α} {f : α → Value} {d : α} (h : w.ownsRow B e 1 (.slice (some ⟨g, 0, none⟩) n n) n ((ss.take k).map f ++ List.replicate (n - k) z)) (hl : ss.length = n) (hlt : k < n)
    (s : α) (hs : s = ss.getD k d) : (w.setCell ⟨g, k, none⟩ (f s)).ownsRow B e 1 (.slice (some ⟨g, 0, none⟩) n n) n ((ss.take (k + 1)).map f ++ List.replicate (n - (k + 1)) z) := by
  have h1 := (h.stored k (f s)).1
  have hkl : k < ss.length := by omega
  have e1 : ss.getD k d = ss[k] := by simp [List.getD, hkl]
  have e2 : ((ss.take k).map f ++ List.replicate (n - k) z).set k (f s) = (ss.take (k + 1)).map f ++ List.replicate (n - (k + 1)) z := by
    rw [List.set_append_right _ _ (by simp; omega)]
    have e3 : k - ((ss.take k).map f).length = 0 := by simp; omega
    rw [e3, show n - k = (n - (k + 1)) + 1 from by omega, List.replicate_succ, List.set_cons_zero, List.take_succ_eq_append_getElem hkl, hs, e1]
    simp only [List.map_append, List.map_cons, List.map_nil, List.append_assoc, List.cons_append, List.nil_append]
  rwa [e2] at h1

theorem clone_end {w : World} {B n k : Nat} {e : TypeId} {v z : Value} {α : Type} {ss : List α} {f : α → Value} (h : w.ownsRow B e 1 v n ((ss.take k).map f ++ List.replicate (n - k) z)) (hl : ss.length = n) (hk : k = n) : w.ownsRow B e 1 v n (ss.map f) := by
  subst hk
  rw [List.take_of_length_le (by omega)] at h
  simpa using h

theorem Hid.in {p : Prop} (h : p) : Hid p := h

set_option maxHeartbeats 400000 in
theorem cloneStrings_any (a : Option Addr) (n c : Nat) (ss : List ByteArray) (w : World) (h : Row w a n (strV ss)) (hl : ss.length = n) (hn : n ≤ 4194304) :
    Calls Trym.prog 24 #[.slice a n c] w (RetRow w 9 n (ss.map Value.string)) := by
  have HL : Hid (ss.length = n) := hl
  clear hl
  obtain ⟨i0, hi, hz0, hz1, hz2⟩ := info_parts Trym.info9
  have hq := fun (x : Option Addr) (n c : Nat) (w : World) => Lib.run_eql_slice_nil (P := Trym.prog) w 38 9 x n c 0 0 Trym.underlying38
  have hb2 : i0.bytes * n ≤ 281474976710656 := by rw [hz2]; omega
  rcases h with h0 | ⟨b, off, rfl, hc⟩
  · obtain rfl : n = 0 := by omega
    have hs0 : ss = [] := List.length_eq_zero_iff.1 HL.out
    subst hs0
    clear h0 HL
    cases a with
    | none =>
      go_enter Trym.func24, Trym.ntmps24
      go_wp2
      go_ret
      exact ⟨_, rfl, World.ownsRow_nil _ _ _ _, Below.refl _ _⟩
    | some x =>
      go_enter Trym.func24, Trym.ntmps24
      go_wp2_with (at_make; refine wpList_make_full _ rfl _ _ 38 rfl w.heap.size 9 i0 (.string ByteArray.empty) 1 Trym.underlying38 hi hz0 hz1 _ _ _ _ 0 rfl rfl rfl rfl hb2 (by decide) (Nat.le_refl _) ?_; intro w1 hown hgrow)
      refine wp_loop_rounds 1 ?_
      rw [rounds_succ]
      go_wp2
      go_ret
      exact ⟨_, rfl, by simpa [madeCells] using hown, (Below.refl _ _).grown hgrow (Nat.le_refl _) (fun k hk => by cases hk)⟩
  · go_enter Trym.func24, Trym.ntmps24
    go_wp2_with (at_make; refine wpList_make_full _ rfl _ _ 38 rfl w.heap.size 9 i0 (.string ByteArray.empty) 1 Trym.underlying38 hi hz0 hz1 _ _ _ _ n rfl rfl rfl rfl hb2 (by unfold maxLen; omega) (Nat.le_refl _) ?_; intro w1 hown hgrow)
    go_loopw [4] (fun i wr => ∃ k : Nat, k ≤ n ∧ i = .int .i64 k ∧ wr.ownsRow w.heap.size 9 1 (.slice (some ⟨w.heap.size, 0, none⟩) n n) n ((ss.take k).map Value.string ++ List.replicate (n - k) (.string ByteArray.empty)) ∧ Below w.heap.size w wr) (fun i _ => n - (intOf i).toNat)
    case atStart => exact ⟨0, Nat.zero_le _, rfl, clone_start hown rfl, (Below.refl _ _).grown hgrow (Nat.le_refl _) (fun k hk => by cases hk)⟩
    case round =>
      obtain ⟨k, hk, rfl, hown, hnx⟩ := hrel
      by_cases hlt : k < n
      · have hck : wr.cell? ⟨b, off + k, none⟩ = some (Value.string (ss.getD k ByteArray.empty)) := (cell_later hnx (hc k hlt))
        have hok : wr.cell? ⟨w.heap.size, k, none⟩ = some (.string ByteArray.empty) := clone_cell hown HL.out hlt
        have hfr : wr.frozen? ⟨w.heap.size, k, none⟩ = false := hown.frozenAt k
        have R := clone_step hown HL.out hlt (ss.getD k ByteArray.empty) rfl
        generalize ss.getD k ByteArray.empty = s at hck R
        have RR := Hid.in R
        have HN := Hid.in hnx
        clear hown hnx hc R
        go_wp2
        go_roundw
        case rel => exact ⟨k + 1, by omega, by go_num, RR.out, HN.out.setCell (Nat.le_refl _) _⟩
        case measure => simp [intOf]; omega
      · have hkn : k = n := by omega
        have HO := Hid.in hown
        have HN := Hid.in hnx
        clear hown hnx hc
        go_wp2
        go_ret
        exact ⟨_, rfl, clone_end HO.out HL.out hkn, HN.out⟩

set_option maxHeartbeats 400000 in
theorem cloneInts_any (a : Option Addr) (n c : Nat) (ss : List Int) (w : World) (h : Row w a n (intV .i64 ss)) (hl : ss.length = n) (hn : n ≤ 4194304) :
    Calls Trym.prog 25 #[.slice a n c] w (RetRow w 3 n (ss.map (Value.int .i64))) := by
  have HL : Hid (ss.length = n) := hl
  clear hl
  obtain ⟨i0, hi, hz0, hz1, hz2⟩ := info_parts Trym.info3
  have hq := fun (x : Option Addr) (n c : Nat) (w : World) => Lib.run_eql_slice_nil (P := Trym.prog) w 39 3 x n c 0 0 Trym.underlying39
  have hb2 : i0.bytes * n ≤ 281474976710656 := by rw [hz2]; omega
  rcases h with h0 | ⟨b, off, rfl, hc⟩
  · obtain rfl : n = 0 := by omega
    have hs0 : ss = [] := List.length_eq_zero_iff.1 HL.out
    subst hs0
    clear h0 HL
    cases a with
    | none =>
      go_enter Trym.func25, Trym.ntmps25
      go_wp2
      go_ret
      exact ⟨_, rfl, World.ownsRow_nil _ _ _ _, Below.refl _ _⟩
    | some x =>
      go_enter Trym.func25, Trym.ntmps25
      go_wp2_with (at_make; refine wpList_make_full _ rfl _ _ 39 rfl w.heap.size 3 i0 (.int .i64 0) 1 Trym.underlying39 hi hz0 hz1 _ _ _ _ 0 rfl rfl rfl rfl hb2 (by decide) (Nat.le_refl _) ?_; intro w1 hown hgrow)
      refine wp_loop_rounds 1 ?_
      rw [rounds_succ]
      go_wp2
      go_ret
      exact ⟨_, rfl, by simpa [madeCells] using hown, (Below.refl _ _).grown hgrow (Nat.le_refl _) (fun k hk => by cases hk)⟩
  · go_enter Trym.func25, Trym.ntmps25
    go_wp2_with (at_make; refine wpList_make_full _ rfl _ _ 39 rfl w.heap.size 3 i0 (.int .i64 0) 1 Trym.underlying39 hi hz0 hz1 _ _ _ _ n rfl rfl rfl rfl hb2 (by unfold maxLen; omega) (Nat.le_refl _) ?_; intro w1 hown hgrow)
    go_loopw [4] (fun i wr => ∃ k : Nat, k ≤ n ∧ i = .int .i64 k ∧ wr.ownsRow w.heap.size 3 1 (.slice (some ⟨w.heap.size, 0, none⟩) n n) n ((ss.take k).map (Value.int .i64) ++ List.replicate (n - k) (.int .i64 0)) ∧ Below w.heap.size w wr) (fun i _ => n - (intOf i).toNat)
    case atStart => exact ⟨0, Nat.zero_le _, rfl, clone_start hown rfl, (Below.refl _ _).grown hgrow (Nat.le_refl _) (fun k hk => by cases hk)⟩
    case round =>
      obtain ⟨k, hk, rfl, hown, hnx⟩ := hrel
      by_cases hlt : k < n
      · have hck : wr.cell? ⟨b, off + k, none⟩ = some ((Value.int .i64) (ss.getD k 0)) := (cell_later hnx (hc k hlt))
        have hok : wr.cell? ⟨w.heap.size, k, none⟩ = some (.int .i64 0) := clone_cell hown HL.out hlt
        have hfr : wr.frozen? ⟨w.heap.size, k, none⟩ = false := hown.frozenAt k
        have R := clone_step hown HL.out hlt (ss.getD k 0) rfl
        generalize ss.getD k 0 = s at hck R
        have RR := Hid.in R
        have HN := Hid.in hnx
        clear hown hnx hc R
        go_wp2
        go_roundw
        case rel => exact ⟨k + 1, by omega, by go_num, RR.out, HN.out.setCell (Nat.le_refl _) _⟩
        case measure => simp [intOf]; omega
      · have hkn : k = n := by omega
        have HO := Hid.in hown
        have HN := Hid.in hnx
        clear hown hnx hc
        go_wp2
        go_ret
        exact ⟨_, rfl, clone_end HO.out HL.out hkn, HN.out⟩

set_option maxHeartbeats 400000 in
theorem cloneBytes_any (a : Option Addr) (n c : Nat) (ss : List Int) (w : World) (h : Row w a n (intV .u8 ss)) (hl : ss.length = n) (hn : n ≤ 4194304) :
    Calls Trym.prog 26 #[.slice a n c] w (RetRow w 5 n (ss.map (Value.int .u8))) := by
  have HL : Hid (ss.length = n) := hl
  clear hl
  obtain ⟨i0, hi, hz0, hz1, hz2⟩ := info_parts Trym.info5
  have hq := fun (x : Option Addr) (n c : Nat) (w : World) => Lib.run_eql_slice_nil (P := Trym.prog) w 40 5 x n c 0 0 Trym.underlying40
  have hb2 : i0.bytes * n ≤ 281474976710656 := by rw [hz2]; omega
  rcases h with h0 | ⟨b, off, rfl, hc⟩
  · obtain rfl : n = 0 := by omega
    have hs0 : ss = [] := List.length_eq_zero_iff.1 HL.out
    subst hs0
    clear h0 HL
    cases a with
    | none =>
      go_enter Trym.func26, Trym.ntmps26
      go_wp2
      go_ret
      exact ⟨_, rfl, World.ownsRow_nil _ _ _ _, Below.refl _ _⟩
    | some x =>
      go_enter Trym.func26, Trym.ntmps26
      go_wp2_with (at_make; refine wpList_make_full _ rfl _ _ 40 rfl w.heap.size 5 i0 (.int .u8 0) 1 Trym.underlying40 hi hz0 hz1 _ _ _ _ 0 rfl rfl rfl rfl hb2 (by decide) (Nat.le_refl _) ?_; intro w1 hown hgrow)
      refine wp_loop_rounds 1 ?_
      rw [rounds_succ]
      go_wp2
      go_ret
      exact ⟨_, rfl, by simpa [madeCells] using hown, (Below.refl _ _).grown hgrow (Nat.le_refl _) (fun k hk => by cases hk)⟩
  · go_enter Trym.func26, Trym.ntmps26
    go_wp2_with (at_make; refine wpList_make_full _ rfl _ _ 40 rfl w.heap.size 5 i0 (.int .u8 0) 1 Trym.underlying40 hi hz0 hz1 _ _ _ _ n rfl rfl rfl rfl hb2 (by unfold maxLen; omega) (Nat.le_refl _) ?_; intro w1 hown hgrow)
    go_loopw [4] (fun i wr => ∃ k : Nat, k ≤ n ∧ i = .int .i64 k ∧ wr.ownsRow w.heap.size 5 1 (.slice (some ⟨w.heap.size, 0, none⟩) n n) n ((ss.take k).map (Value.int .u8) ++ List.replicate (n - k) (.int .u8 0)) ∧ Below w.heap.size w wr) (fun i _ => n - (intOf i).toNat)
    case atStart => exact ⟨0, Nat.zero_le _, rfl, clone_start hown rfl, (Below.refl _ _).grown hgrow (Nat.le_refl _) (fun k hk => by cases hk)⟩
    case round =>
      obtain ⟨k, hk, rfl, hown, hnx⟩ := hrel
      by_cases hlt : k < n
      · have hck : wr.cell? ⟨b, off + k, none⟩ = some ((Value.int .u8) (ss.getD k 0)) := (cell_later hnx (hc k hlt))
        have hok : wr.cell? ⟨w.heap.size, k, none⟩ = some (.int .u8 0) := clone_cell hown HL.out hlt
        have hfr : wr.frozen? ⟨w.heap.size, k, none⟩ = false := hown.frozenAt k
        have R := clone_step hown HL.out hlt (ss.getD k 0) rfl
        generalize ss.getD k 0 = s at hck R
        have RR := Hid.in R
        have HN := Hid.in hnx
        clear hown hnx hc R
        go_wp2
        go_roundw
        case rel => exact ⟨k + 1, by omega, by go_num, RR.out, HN.out.setCell (Nat.le_refl _) _⟩
        case measure => simp [intOf]; omega
      · have hkn : k = n := by omega
        have HO := Hid.in hown
        have HN := Hid.in hnx
        clear hown hnx hc
        go_wp2
        go_ret
        exact ⟨_, rfl, clone_end HO.out HL.out hkn, HN.out⟩

end Go.Proofs.Qxb6603923aMods
