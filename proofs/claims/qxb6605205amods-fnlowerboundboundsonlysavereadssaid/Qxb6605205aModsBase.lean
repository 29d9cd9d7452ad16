/-
  Base of the walks over seat b6605205aM: what is read of slices, small laws.
-/
import Derived.Test.Qxb6605205aModsRows
import Derived.WalkKit
import Derived.WalkSpells
import Derived.WalkLawsBesides
import Derived.Deep.QuietTactic
import Derived.BigQuiet
import Derived.RegionTactic
namespace Go.Proofs.Qxb6605205aMods
open Go.RowKit

theorem Hid.in {p : Prop} (h : p) : Hid p := h

/-- A slice that can be read: its n cells, from a on, hold f 0, f 1, .. -/
def Row (w : World) (a : Option Addr) (n : Nat) (f : Nat → Value) : Prop :=
  n ≤ 0 ∨ ∃ b off, a = some ⟨b, off, none⟩ ∧ ∀ j, j < n → w.cell? ⟨b, off + j, none⟩ = some (f j)
def intV (k : IntKind) (zs : List Int) (j : Nat) : Value := .int k (zs.getD j 0)

theorem cell_lt {w : World} {a : Addr} {v : Value} (h : w.cell? a = some v) : a.block < w.heap.size := by
  unfold World.cell? at h
  by_cases hb : a.block < w.heap.size
  · exact hb
  · rw [Array.getElem?_eq_none (by omega)] at h; simp at h
theorem Row.below {w w' : World} {a : Option Addr} {n : Nat} {f : Nat → Value} (h : Row w a n f) {B : Nat} (hB : w.heap.size ≤ B) (hb : Below B w w') : Row w' a n f := by
  rcases h with h | ⟨b, off, rfl, hc⟩
  · exact .inl h
  · exact .inr ⟨b, off, rfl, fun j hj => (hb.cell (by have := cell_lt (hc j hj); simp at this ⊢; omega)).trans (hc j hj)⟩
theorem row_of_owns {w : World} {B : Nat} {e : TypeId} {v : Value} {n : Nat} {α : Type} {xs : List α} {f : α → Value} (d : α) (h : w.ownsRow B e 1 v n (xs.map f)) : ∃ a c, v = .slice a n c ∧ Row w a n (fun j => f (xs.getD j d)) := by
  rcases h.2 with ⟨rfl, rfl⟩ | ⟨g, cap, cur, rfl, _⟩
  · exact ⟨none, 0, rfl, .inl (Nat.le_refl _)⟩
  · refine ⟨_, cap, rfl, .inr ⟨g, 0, rfl, fun j hj => ?_⟩⟩
    have hl := h.1
    simp at hl
    rw [Nat.zero_add, h.cellAt j (by omega)]
    simp [List.getD, show j < xs.length by omega]

/-- Some bool x with P x comes back; the world stands. -/
def RetB (w : World) (P : Bool → Prop) (e : Ending) (w' : World) : Prop := (∃ x : Bool, e = .returned (.bool x) ∧ P x) ∧ w' = w
theorem retB {w : World} {P : Bool → Prop} (x : Bool) (h : P x) : RetB w P (.returned (.bool x)) w := ⟨⟨x, rfl, h⟩, rfl⟩
def RetT (w : World) (e : Ending) (w' : World) : Prop := e = .returned (.bool true) ∧ Below w.heap.size w w'
theorem below_step {w w1 w2 : World} (h : Below w.heap.size w w1) (h2 : Below w1.heap.size w1 w2) : Below w.heap.size w w2 := h.trans (h2.mono h.size)
theorem ret_true {x : Bool} (h : x = true) : Ending.returned (.bool x) = .returned (.bool true) := by rw [h]
def Bnd1 (n : Nat) (x : Bool) : Prop := x = true → n ≤ 1048576
theorem bnd1_no {n : Nat} : Bnd1 n false := fun h => by cases h

/-! ### a clone, cell by cell -/
theorem clone_start {w : World} {B n : Nat} {e : TypeId} {v z : Value} (h : w.ownsRow B e 1 v n (madeCells z.cells (n * 1)).toList) {α : Type} {ss : List α} {f : α → Value} (hz : z.cells = #[z]) :
    w.ownsRow B e 1 v n ((ss.take 0).map f ++ List.replicate (n - 0) z) := by
  rw [hz, Nat.mul_one, toList_madeCells_one] at h
  simpa using h
theorem clone_cell {w : World} {B n g k : Nat} {e : TypeId} {z : Value} {α : Type} {ss : List α} {f : α → Value} (h : w.ownsRow B e 1 (.slice (some ⟨g, 0, none⟩) n n) n ((ss.take k).map f ++ List.replicate (n - k) z)) (hl : ss.length = n) (hlt : k < n) :
    w.cell? ⟨g, k, none⟩ = some z := by
  rw [h.cellAt k (by omega), List.getElem?_append_right (by simp; omega), List.getElem?_replicate, if_pos (by simp; omega)]
theorem clone_step {w : World} {B n g k : Nat} {e : TypeId} {z : Value} {α : Type} {ss : List α} {f : α → Value} {d : α} (h : w.ownsRow B e 1 (.slice (some ⟨g, 0, none⟩) n n) n ((ss.take k).map f ++ List.replicate (n - k) z)) (hl : ss.length = n) (hlt : k < n)
    (s : α) (hs : s = ss.getD k d) : (w.setCell ⟨g, k, none⟩ (f s)).ownsRow B e 1 (.slice (some ⟨g, 0, none⟩) n n) n ((ss.take (k + 1)).map f ++ List.replicate (n - (k + 1)) z) := by
  have h1 := (h.stored k (f s)).1
  have hkl : k < ss.length := by omega
  have e1 : ss.getD k d = ss[k] := by simp [List.getD, hkl]
  have e2 : ((ss.take k).map f ++ List.replicate (n - k) z).set k (f s) = (ss.take (k + 1)).map f ++ List.replicate (n - (k + 1)) z := by
    rw [List.set_append_right _ _ (by simp; omega)]
    have e3 : k - ((ss.take k).map f).length = 0 := by simp; omega
    rw [e3, show n - k = (n - (k + 1)) + 1 from by omega, List.replicate_succ, List.set_cons_zero, List.take_succ_eq_append_getElem hkl, hs, e1]
    simp only [List.map_append, List.map_cons, List.map_nil, List.append_assoc, List.cons_append, List.nil_append]
  rwa [e2] at h1
theorem clone_end {w : World} {B n k : Nat} {e : TypeId} {v z : Value} {α : Type} {ss : List α} {f : α → Value} (h : w.ownsRow B e 1 v n ((ss.take k).map f ++ List.replicate (n - k) z)) (hl : ss.length = n) (hk : k = n) : w.ownsRow B e 1 v n (ss.map f) := by
  subst hk
  rw [List.take_of_length_le (by omega)] at h
  simpa using h
end Go.Proofs.Qxb6605205aMods
