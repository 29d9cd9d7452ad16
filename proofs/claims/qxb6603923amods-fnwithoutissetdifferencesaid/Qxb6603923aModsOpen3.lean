/-
  A [][2]uint64 that came in, as the walks ask it.
-/
import Derived.Test.Qxb6603923aModsOpen
import Derived.Test.Qxb6603923aModsRuns1
import Derived.Deep.Slices
namespace Go.Proofs.Qxb6603923aMods
open Go.ChangeShapes Go.WideShapes Go.ChangeAt Go.RowKit Go.Deep

theorem Trym.cells32 : Trym.prog.cellsOf 32 = 2 := by kernel_rfl

theorem exists_list {α : Type} (d : α) : ∀ (n : Nat) (P : Nat → α → Prop), (∀ j, j < n → ∃ p, P j p) → ∃ l : List α, l.length = n ∧ ∀ j, j < n → P j (l.getD j d)
  | 0, _, _ => ⟨[], rfl, fun j hj => by omega⟩
  | n + 1, P, h => by
    obtain ⟨l, h1, h2⟩ := exists_list d n P (fun j hj => h j (by omega))
    obtain ⟨p, hp⟩ := h n (by omega)
    refine ⟨l ++ [p], by simp [h1], fun j hj => ?_⟩
    by_cases hjn : j < n
    · rw [getD_app_left (by omega)]; exact h2 j hjn
    · obtain rfl : j = l.length := by omega
      rw [getD_app_last, h1]; exact hp

/-- One pair. -/
theorem read_pair {H : Type} {enc : TypeId × Value → H} {W : World} {fuel : Nat} {cs : List Value} {y : DataW H × List MemPlace} (h : DataW.trod enc Trym.prog W 0 (fun _ => true) true fuel 32 cs = some y) :
    ∃ p : Int × Int, cs = [.int .u64 p.1, .int .u64 p.2] ∧ (0 ≤ p.1 ∧ p.1 ≤ 18446744073709551615) ∧ 0 ≤ p.2 ∧ p.2 ≤ 18446744073709551615 := by
  obtain ⟨xs, m, _, _, hl, hx, hi⟩ := DataW.trod_array Trym.underlying32 h
  rw [Trym.cells32] at hl
  match cs, hl with
  | [c0, c1], _ =>
    have h0 := hi 0 (by omega)
    have h1 := hi 1 (by omega)
    rw [Trym.cells31] at h0 h1
    simp only [Nat.zero_mul, Nat.one_mul, List.drop_zero, List.take_succ_cons, List.take_zero, List.drop_succ_cons] at h0 h1
    obtain ⟨z0, hz0⟩ : ∃ z, xs[0]? = some z := ⟨_, List.getElem?_eq_getElem (by omega)⟩
    obtain ⟨z1, hz1⟩ : ∃ z, xs[1]? = some z := ⟨_, List.getElem?_eq_getElem (by omega)⟩
    rw [hz0] at h0
    rw [hz1] at h1
    obtain ⟨a0, e0, _, w0⟩ := DataW.trod_int Trym.underlying31 h0
    obtain ⟨a1, e1, _, w1⟩ := DataW.trod_int Trym.underlying31 h1
    simp at e0 e1
    subst e0 e1
    refine ⟨(a0, a1), rfl, ?_, ?_⟩
    · exact bounds_u64 w0
    · exact bounds_u64 w1

theorem read_pairs {H : Type} {enc : TypeId × Value → H} {W : World} {a : Option Addr} {n c : Nat} {d : DataW H} {p : List MemPlace} (h : DataW.Trod enc Trym.prog W 0 (fun _ => true) true 22 (.slice a n c) d p) :
    ∃ ps : List (Int × Int), PRow W a n ps ∧ ps.length = n ∧ n ≤ maxLen ∧ ∀ j, j < n → (0 ≤ pf ps j ∧ pf ps j ≤ 18446744073709551615) ∧ 0 ≤ pe ps j ∧ pe ps j ≤ 18446744073709551615 := by
  obtain ⟨fuel, hf⟩ := h
  rcases open_slice Trym.underlying22 hf with ⟨hcs, _⟩ | ⟨x, l, cap, m, n', D, Pl, hcs, _, hl, hm, hmm, _, hr⟩
  · simp [Value.cells] at hcs
    obtain ⟨rfl, rfl, rfl⟩ := hcs
    exact ⟨[], .inl (Nat.le_refl _), rfl, by simp [maxLen], fun j hj => by omega⟩
  · simp [Value.cells] at hcs
    obtain ⟨rfl, rfl, rfl⟩ := hcs
    simp only [if_true] at hmm
    rw [Trym.cells32] at hr
    have each : ∀ j, j < n → ∃ p : Int × Int, (W.cell? (x.add (j * 2)) = some (.int .u64 p.1) ∧ W.cell? ((x.add (j * 2)).add 1) = some (.int .u64 p.2)) ∧ (0 ≤ p.1 ∧ p.1 ≤ 18446744073709551615) ∧ 0 ≤ p.2 ∧ p.2 ≤ 18446744073709551615 := by
      intro j hj
      obtain ⟨cs', h1, h2⟩ := hr j (by omega)
      obtain ⟨p, rfl, hb⟩ := read_pair h2
      obtain ⟨_, _, hc⟩ := World.cells?_some h1
      have g0 := hc 0 (by omega)
      have g1 := hc 1 (by omega)
      refine ⟨p, ⟨?_, g1⟩, hb⟩
      rwa [show (x.add (j * 2)).add 0 = x.add (j * 2) from by unfold Addr.add; split <;> simp_all] at g0
    obtain ⟨ps, hpl, hps⟩ := exists_list (0, 0) n _ each
    refine ⟨ps, ?_, hpl, by omega, fun j hj => (hps j hj).2⟩
    by_cases hn : n ≤ 0
    · exact .inl hn
    obtain ⟨b, off, spot⟩ := x
    have hspot : spot = none := by
      have := World.cell?_spot (hps 0 (by omega)).1.1
      simpa [Addr.add] using this
    subst hspot
    refine .inr ⟨b, off, rfl, fun j hj => ?_⟩
    have := (hps j hj).1
    rw [add_plain, add_plain] at this
    exact this
end Go.Proofs.Qxb6603923aMods
