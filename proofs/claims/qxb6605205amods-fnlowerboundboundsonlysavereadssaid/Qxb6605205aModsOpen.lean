/-
  From what the row's form hands of an argument to what the walks ask.
-/
import Derived.Test.Qxb6605205aModsBase
import Derived.ProofKit
import Derived.OpenShut
import Derived.ShutString
import Derived.ChangeOld
namespace Go.Proofs.Qxb6605205aMods
open Go.ChangeShapes Go.WideShapes Go.ChangeAt Go.RowKit

theorem own : ownKnob Trym.prog.godebug = none := by kernel_rfl
theorem laidOut : laidOutB Trym.prog = true := by kernel_rfl
theorem Trym.cells5 : Trym.prog.cellsOf 5 = 1 := by kernel_rfl
theorem Trym.cells23 : Trym.prog.cellsOf 23 = 1 := by kernel_rfl

theorem row_of_add {W : World} {x : Addr} {n : Nat} {f : Nat → Value} (h : ∀ i, i < n → W.cell? (x.add i) = some (f i)) : Row W (some x) n f := by
  by_cases hn : n ≤ 0
  · exact .inl hn
  · obtain ⟨b, off, spot⟩ := x
    have hspot : spot = none := by simpa [Addr.add] using World.cell?_spot (h 0 (by omega))
    subst hspot
    exact .inr ⟨b, off, rfl, fun j hj => by rw [← add_plain]; exact h j hj⟩
theorem read_ints {H : Type} {enc : TypeId × Value → H} {W : World} {t e : TypeId} {k : IntKind} (ht : Trym.prog.underlying t = some (.slice e)) (he : Trym.prog.underlying e = some (.int k)) (hc : Trym.prog.cellsOf e = 1) {a : Option Addr} {n c : Nat} {d : DataW H} {p : List MemPlace} (h : DataW.Trod enc Trym.prog W 0 (fun _ => true) true t (.slice a n c) d p) :
    ∃ zs : List Int, Row W a n (intV k zs) ∧ zs.length = n ∧ (∀ z ∈ zs, (Lit.int k z).wf = true) ∧ n ≤ maxLen := by
  obtain ⟨fuel, hf⟩ := h
  rcases open_ints ht he hc hf with ⟨hcs, _⟩ | ⟨x, l, cap, zs, hcs, _, hl, hm, hz, _, hcell, hwz⟩
  · simp [Value.cells] at hcs
    obtain ⟨rfl, rfl, rfl⟩ := hcs
    exact ⟨[], .inl (Nat.le_refl _), rfl, by simp, by simp [maxLen]⟩
  · simp [Value.cells] at hcs
    obtain ⟨rfl, rfl, rfl⟩ := hcs
    simp only [if_true] at hz
    refine ⟨zs.take n, row_of_add fun i hi => ?_, by simp; omega, fun s hs => hwz s (List.mem_of_mem_take hs), by omega⟩
    rw [hcell i (by omega)]
    simp [intV, List.getD, hi]
theorem getD_mem {α : Type} (ss : List α) (k : Nat) (d : α) (h : k < ss.length) : ss.getD k d ∈ ss := by
  simp [List.getD, h]
end Go.Proofs.Qxb6605205aMods
