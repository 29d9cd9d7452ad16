/-
  The row of FnLowerBoundBoundsOnlySaveReads.
-/
import Derived.Test.Qxb6605205aModsOpen
import Derived.Test.Qxb6605205aModsLB4
namespace Go.Proofs.Qxb6605205aMods.fnLowerBoundBoundsOnlySaveReads
open Go.ChangeShapes Go.WideShapes Go.ChangeAt Go.RowKit
set_option linter.unusedVariables false

set_option maxRecDepth 100000 in
theorem lifted (os : Os) (started : os.Started) (H : Type) (enc : TypeId × Value → H) :
    ReturnsInHanded {} Trym.checked os 4 .any (Rows.fnLowerBoundBoundsOnlySaveReadsSpec.pre6 enc Trym.prog Trym.f4 Rows.fnLowerBoundBoundsOnlySaveReadsRow.domain false) (Rows.fnLowerBoundBoundsOnlySaveReadsSpec.post enc Trym.prog Trym.f4 false true false false) := by
  refine returnsInHanded_of_change (C := Trym.checked) own started (by kernel_rfl) Trym.func4
    (ChangeSpec.witness6 (enc := enc) (C := Trym.checked) false ⟨#[], #[.slice none 0 0, .int .u64 0, .int .u64 0, .int .u64 0], []⟩ 8 (by kernel_rfl) (by kernel_rfl) (by kernel_rfl) (by kernel_rfl)) ?_
  intro W base args ds gs before hval0 hW hcnd _
  have hval : ∀ (j : Nat) t v, Trym.f4.params[j]? = some t → args[j]? = some v → Value.okWide Trym.prog W .any base t v := hval0
  have hW' := hW
  obtain ⟨p, q, hA0, hV, rfl, hfz, hnd⟩ := hW
  have hA : DataW.TrodAll enc Trym.prog W 0 (fun _ => true) true Trym.f4.params.toList args.toList ds p := hA0
  rw [Trym.params4] at hA hval
  obtain ⟨v0, vs0, d0, ds0, p0, q0, hargs, rfl, rfl, h0, r0⟩ := trodAll_cons hA
  obtain ⟨v1, vs1, d1, ds1, p1, q1, rfl, rfl, rfl, h1, r1⟩ := trodAll_cons r0
  obtain ⟨v2, vs2, d2, ds2, p2, q2, rfl, rfl, rfl, h2, r2⟩ := trodAll_cons r1
  obtain ⟨v3, vs3, d3, ds3, p3, q3, rfl, rfl, rfl, h3, r3⟩ := trodAll_cons r2
  obtain ⟨rfl, rfl, rfl⟩ := trodAll_nil r3
  obtain rfl : args = #[v0, v1, v2, v3] := by cases args; simp_all
  obtain ⟨rfl, rfl⟩ := trodVars_none hV
  obtain ⟨a0, len0, cap0, rfl⟩ := okWide_slice Trym.underlying22 (hval 0 22 v0 rfl rfl)
  have lt0 : ∀ x ∈ p0, x.block < W.heap.size := by obtain ⟨m, hm⟩ := h0; exact DataW.trod_lt m _ _ _ hm
  obtain ⟨z0, b0, l0, g0, m0⟩ := read_ints Trym.underlying22 Trym.underlying23 Trym.cells23 h0
  obtain ⟨a1, rfl, rfl, rfl, w1⟩ := open_int Trym.underlying23 (hval 1 23 v1 rfl rfl) h1
  have bd1 := bounds_u64 w1
  obtain ⟨a2, rfl, rfl, rfl, w2⟩ := open_int Trym.underlying23 (hval 2 23 v2 rfl rfl) h2
  have bd2 := bounds_u64 w2
  obtain ⟨a3, rfl, rfl, rfl, w3⟩ := open_int Trym.underlying23 (hval 3 23 v3 rfl rfl) h3
  have bd3 := bounds_u64 w3
  clear hA0 hval0
  refine (lawBounds a0 len0 cap0 z0 a1 a2 a3 W b0 l0 m0 (fun j hj => by have := bounds_u64 (g0 _ (getD_mem z0 j 0 (by omega))); unfold zz; omega) bd1.1 (by omega) bd2.1 (by omega)).mono fun e W' ⟨he, bel⟩ => ?_
  subst he
  exact ⟨_, rfl, _, _, _, [], _, [], hW', trodAll_mk1 (shut_bool Trym.underlying4 _), (trodAll_cons_mk (Below.trod laidOut (by kernel_rfl) (of_decide_eq_true (by kernel_rfl)) h0 bel lt0) (trodAll_cons_mk (shut_int Trym.underlying23 w1) (trodAll_cons_mk (shut_int Trym.underlying23 w2) (trodAll_cons_mk (shut_int Trym.underlying23 w3) trodAll_mk0)))), rfl, bel.frame _, fun h => by cases h⟩

theorem over : Rows.fnLowerBoundBoundsOnlySaveReadsRow.holds Trym.pinned (OpenSpec.ofChange Rows.fnLowerBoundBoundsOnlySaveReadsSpec) :=
  OpenClaim.holds_of_wide 4 Trym.f4 rfl rfl rfl rfl rfl rfl rfl ⟨rfl, rfl, rfl, rfl, rfl⟩ rfl rfl rfl rfl rfl (by kernel_rfl) Trym.func4 (by kernel_rfl)
    (of_decide_eq_true (by kernel_rfl)) (by unfold Func.isWrapper; first | (rw [if_pos (by decide +kernel)]; kernel_rfl) | (rw [if_neg (by decide +kernel)]; exact ⟨rfl, rfl⟩))
    (fun os started H enc _ => lifted os started H enc)

/-- The statement. -/
theorem proved : Rows.FnLowerBoundBoundsOnlySaveReadsSaid := over
#print axioms proved
end Go.Proofs.Qxb6605205aMods.fnLowerBoundBoundsOnlySaveReads
