/-
  A [][]byte that came in, as the script's walk asks it.
-/
import Derived.Test.Qxb6603923aModsOpen
import Derived.Test.Qxb6603923aModsPlace4
import Derived.Deep.Matrix
namespace Go.Proofs.Qxb6603923aMods
open Go.ChangeShapes Go.WideShapes Go.ChangeAt Go.RowKit Go.Deep

theorem Trym.cells40 : Trym.prog.cellsOf 40 = 1 := by kernel_rfl

theorem read_rows {H : Type} {enc : TypeId × Value → H} {W : World} {a : Option Addr} {n c : Nat} {d : DataW H} {p : List MemPlace} (h : DataW.Trod enc Trym.prog W 0 (fun _ => true) true 51 (.slice a n c) d p) :
    ∃ kzs : List (List Int), Row2 W a n kzs ∧ kzs.length = n ∧ n ≤ maxLen := by
  obtain ⟨fuel, hf⟩ := h
  rcases open_int_rows Trym.underlying51 Trym.underlying40 Trym.underlying5 Trym.cells40 Trym.cells5 hf with ⟨hcs, _⟩ | ⟨x, l, cap, A, L, C, Z, hcs, _, hl, hm, _, hr⟩
  · simp [Value.cells] at hcs
    obtain ⟨rfl, rfl, rfl⟩ := hcs
    exact ⟨[], .inl (Nat.le_refl _), rfl, by simp [maxLen]⟩
  · simp [Value.cells] at hcs
    obtain ⟨rfl, rfl, rfl⟩ := hcs
    refine ⟨(List.range n).map (fun j => (Z j).take (L j)), ?_, by simp, by omega⟩
    by_cases hn : n ≤ 0
    · exact .inl hn
    obtain ⟨b, off, spot⟩ := x
    have hspot : spot = none := by simpa [Addr.add] using World.cell?_spot (hr 0 (by omega)).1
    subst hspot
    refine .inr ⟨b, off, rfl, fun j hj => ?_⟩
    obtain ⟨h1, h2, h3, h4, _, h6, h7⟩ := hr j (by omega)
    have e1 : ((List.range n).map (fun j => (Z j).take (L j))).getD j [] = (Z j).take (L j) := by simp [List.getD, hj]
    rw [e1]
    refine ⟨_, by rw [← add_plain]; exact h1, A j, L j, C j, rfl, ?_, by simp; omega, by omega⟩
    cases hA : A j with
    | none => exact .inl (by have := h6 hA; omega)
    | some a' =>
      refine row_of_add fun i hi => ?_
      rw [(h7 a' hA).2 i (by omega)]
      simp [intV, List.getD, hi]
end Go.Proofs.Qxb6603923aMods
