/-
  Base of the walks over seat b6603923aM: what is read of slices, small laws.
-/
import Derived.Test.Qxb6603923aModsRows
import Derived.WalkKit
import Derived.WalkSpells
import Derived.WalkLawsBesides
namespace Go.Proofs.Qxb6603923aMods
open Go.RowKit

/-- A slice that can be read: its n cells, from a on, hold f 0, f 1, .. -/
def Row (w : World) (a : Option Addr) (n : Nat) (f : Nat → Value) : Prop :=
  n ≤ 0 ∨ ∃ b off, a = some ⟨b, off, none⟩ ∧ ∀ j, j < n → w.cell? ⟨b, off + j, none⟩ = some (f j)

/-- The j-th string, the j-th number, as values. -/
def strV (ss : List ByteArray) (j : Nat) : Value := .string (ss.getD j ByteArray.empty)
def intV (k : IntKind) (zs : List Int) (j : Nat) : Value := .int k (zs.getD j 0)

theorem cell_lt {w : World} {a : Addr} {v : Value} (h : w.cell? a = some v) : a.block < w.heap.size := by
  unfold World.cell? at h
  by_cases hb : a.block < w.heap.size
  · exact hb
  · rw [Array.getElem?_eq_none (by omega)] at h; simp at h

theorem Row.below {w w' : World} {a : Option Addr} {n : Nat} {f : Nat → Value} (h : Row w a n f) {B : Nat} (hB : w.heap.size ≤ B) (hb : Below B w w') : Row w' a n f := by
  rcases h with h | ⟨b, off, rfl, hc⟩
  · exact .inl h
  · exact .inr ⟨b, off, rfl, fun j hj => (hb.cell (by have := cell_lt (hc j hj); simp at this ⊢; omega)).trans (hc j hj)⟩

/-- Some bool x with P x comes back; the world stands. -/
def RetB (w : World) (P : Bool → Prop) (e : Ending) (w' : World) : Prop := (∃ x : Bool, e = .returned (.bool x) ∧ P x) ∧ w' = w
theorem retB {w : World} {P : Bool → Prop} (x : Bool) (h : P x) : RetB w P (.returned (.bool x)) w := ⟨⟨x, rfl, h⟩, rfl⟩

set_option maxHeartbeats 400000 in
theorem stringsBytes_any (a : Option Addr) (n c : Nat) (ss : List ByteArray) (w : World) (h : Row w a n (strV ss)) (hn : n ≤ 1048576) :
    Calls Trym.prog 21 #[.slice a n c] w fun e w' => (∃ z : Int, e = .returned (.int .i64 z)) ∧ w' = w := by
  rcases h with h0 | ⟨b, off, rfl, hc⟩
  · obtain rfl : n = 0 := by omega
    go_enter Trym.func21, Trym.ntmps21
    go_wp2
    refine wp_loop_rounds 1 ?_
    rw [rounds_succ]
    go_wp2
    go_ret
    exact ⟨⟨_, rfl⟩, rfl⟩
  · go_enter Trym.func21, Trym.ntmps21
    go_wp2
    go_loop [3, 4] (fun m i => ∃ k : Nat, ∃ z : Int, k ≤ n ∧ i = .int .i64 k ∧ m = .int .i64 z) (fun _ i => n - (intOf i).toNat)
    case atStart => exact ⟨0, _, Nat.zero_le _, rfl, rfl⟩
    case round =>
      obtain ⟨k, z, hk, rfl, rfl⟩ := hrel
      by_cases hlt : k < n
      · obtain ⟨s, hck⟩ : ∃ s, w.cell? ⟨b, off + k, none⟩ = some (.string s) := ⟨_, hc k hlt⟩
        clear hc
        by_cases h1 : 1048576 < z
        · go_wp2
          go_ret
          exact ⟨⟨_, rfl⟩, rfl⟩
        · by_cases h2 : (1048576 : Int) < s.size
          · go_wp2
            go_ret
            exact ⟨⟨_, rfl⟩, rfl⟩
          · go_wp2
            go_round
            case rel => exact ⟨k + 1, _, by omega, by go_num, rfl⟩
            case measure => simp [intOf]; omega
      · go_wp2
        go_ret
        exact ⟨⟨_, rfl⟩, rfl⟩

/-- zzBytes_FnPlacementAddKeepsRecordWellFormed: some bool; where true, every length is at most 2^20. -/
def Bnd5 (n0 n1 n2 n3 n4 : Nat) (x : Bool) : Prop := x = true → n0 ≤ 1048576 ∧ n1 ≤ 1048576 ∧ n2 ≤ 1048576 ∧ n3 ≤ 1048576 ∧ n4 ≤ 1048576

theorem bnd5_no {n0 n1 n2 n3 n4 : Nat} : Bnd5 n0 n1 n2 n3 n4 false := fun h => by cases h

theorem row_str {w : World} {a : Option Addr} {n : Nat} {ss : List ByteArray} (h : Row w a n (strV ss)) : n ≤ 0 ∨ ∃ b off, a = some ⟨b, off, none⟩ ∧ ∀ j, j < n → ∃ s, w.cell? ⟨b, off + j, none⟩ = some (.string s) := by
  rcases h with h | ⟨b, off, rfl, hc⟩
  · exact .inl h
  · exact .inr ⟨b, off, rfl, fun j hj => ⟨_, hc j hj⟩⟩

set_option maxHeartbeats 2000000 in
theorem bytes5_any (a0 a1 a2 a4 : Option Addr) (n0 c0 n1 c1 n2 c2 n4 c4 : Nat) (s0 s2 : List ByteArray) (nd : ByteArray) (w : World)
    (m0 : n0 ≤ maxLen) (m1 : n1 ≤ maxLen) (m2 : n2 ≤ maxLen) (m3 : nd.size ≤ maxLen) (m4 : n4 ≤ maxLen) (r0 : Row w a0 n0 (strV s0)) (r2 : Row w a2 n2 (strV s2)) :
    Calls Trym.prog 20 #[.slice a0 n0 c0, .slice a1 n1 c1, .slice a2 n2 c2, .string nd, .slice a4 n4 c4] w (RetB w (Bnd5 n0 n1 n2 nd.size n4)) := by
  unfold maxLen at m0 m1 m2 m3 m4
  have r0' := row_str r0
  have r2' := row_str r2
  clear r0 r2
  rcases r0' with h0 | ⟨b0, off0, rfl, h0⟩ <;> rcases r2' with h2 | ⟨b2, off2, rfl, h2⟩
  all_goals
    go_enter Trym.func20, Trym.ntmps20
    go_wp2
    all_goals try (go_ret; exact retB false bnd5_no; done)
    go_loop [11, 12] (fun m i => ∃ k : Nat, ∃ z : Int, k ≤ n0 ∧ 0 ≤ z ∧ z ≤ 1048576 ∧ i = .int .i64 k ∧ m = .int .i64 z) (fun _ i => n0 - (intOf i).toNat)
    case atStart => exact ⟨0, _, Nat.zero_le _, by omega, by omega, rfl, rfl⟩
    case round =>
      obtain ⟨k, z, hk, hz0, hz1, rfl, rfl⟩ := hrel
      by_cases hlt : k < n0
      · first | (exfalso; omega; done) | skip
        all_goals
          obtain ⟨s, hck⟩ := h0 k hlt
          clear h0 h2
          go_wp2
          all_goals try (go_ret; exact retB false bnd5_no; done)
          · go_round
            case rel => exact ⟨k + 1, _, by omega, by omega, by omega, by go_num, rfl⟩
            case measure => simp [intOf]; omega
      · clear h0
        go_wp2
        all_goals try (go_ret; exact retB false bnd5_no; done)
        go_loop [11, 13] (fun m i => ∃ k : Nat, ∃ z : Int, k ≤ n2 ∧ 0 ≤ z ∧ z ≤ 1048576 ∧ i = .int .i64 k ∧ m = .int .i64 z) (fun _ i => n2 - (intOf i).toNat)
        case atStart => exact ⟨0, _, Nat.zero_le _, by omega, by omega, rfl, rfl⟩
        case round =>
          obtain ⟨k, z, hk, hz0, hz1, rfl, rfl⟩ := hrel
          by_cases hlt : k < n2
          · first | (exfalso; omega; done) | skip
            all_goals
              obtain ⟨s, hck⟩ := h2 k hlt
              clear h2
              go_wp2
              all_goals try (go_ret; exact retB false bnd5_no; done)
              · go_round
                case rel => exact ⟨k + 1, _, by omega, by omega, by omega, by go_num, rfl⟩
                case measure => simp [intOf]; omega
          · clear h2
            go_wp2
            all_goals try (go_ret; exact retB false bnd5_no; done)
            · go_ret
              exact retB true (fun _ => ⟨by omega, by omega, by omega, by omega, by omega⟩)
end Go.Proofs.Qxb6603923aMods
