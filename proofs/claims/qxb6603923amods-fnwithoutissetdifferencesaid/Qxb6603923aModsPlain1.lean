/-
  The plain laws of the placement: no Go in sight.
-/
import Derived.Test.Qxb6603923aModsPlace3
namespace Go.Proofs.Qxb6603923aMods
open Go.RowKit Go.Maps

theorem scan_mono_step {N : Nat} {o o' : Option Nat} {v : Int} {t : Nat} (h : ∀ u, o = some u → o' = some u) (hs : scanStep N o v = some t) : scanStep (N + 1) o' v = some t := by
  cases o with
  | none => cases hs
  | some u =>
    rw [h u rfl]
    unfold scanStep at hs ⊢
    simp only at hs ⊢
    by_cases h1 : v < 0 ∨ (N : Int) ≤ v
    · rw [if_pos h1] at hs; cases hs
    · rw [if_neg h1] at hs
      rw [if_neg (by omega)]
      exact hs
theorem scan_mono {N : Nat} (os : List Int) : ∀ t, scan N os.reverse = some t → scan (N + 1) os.reverse = some t := by
  induction os with
  | nil => intro t h; exact h
  | cons v r ih =>
    intro t h
    rw [List.reverse_cons, scan_snoc] at h ⊢
    exact scan_mono_step ih h
theorem scan_mono' {N : Nat} {os : List Int} {t : Nat} (h : scan N os = some t) : scan (N + 1) os = some t := by
  have := scan_mono (N := N) os.reverse t (by rwa [List.reverse_reverse])
  rwa [List.reverse_reverse] at this

theorem mem_getD {ss : List ByteArray} {s : ByteArray} (h : s ∈ ss) : ∃ j, j < ss.length ∧ ss.getD j ByteArray.empty = s := by
  obtain ⟨j, hj, e⟩ := List.mem_iff_getElem.1 h
  exact ⟨j, hj, by simp [List.getD, hj, e]⟩

/-- add keeps a well-formed placement well formed. -/
theorem wf_add {ns : List ByteArray} {os : List Int} {ks : List ByteArray} {node K : ByteArray} {ns' : List ByteArray} {os' : List Int} {ks' : List ByteArray} (hw : WF ns os (dcount ks)) (ha : AddP ns os ks node K ns' os' ks') :
    WF ns' os' (dcount ks') ∧ memB ks' K = true := by
  rcases ha with ⟨hm, rfl, rfl, rfl⟩ | ⟨hm, hr, rfl⟩
  · exact ⟨hw, hm⟩
  · refine ⟨?_, by rw [memB_snoc, memB_one_same, Bool.or_true]⟩
    have hd : dcount (ks ++ [K]) = dcount ks + 1 := by rw [dcount_snoc, hm]; rfl
    rw [hd]
    obtain ⟨h1, h2, h3⟩ := hw
    rcases hr with ⟨i, hi, hat, rfl, rfl⟩ | ⟨hno, rfl, rfl⟩
    · refine ⟨h1, ?_, by simp [h3]⟩
      rw [scan_snoc, h2]
      unfold scanStep
      simp only
      rw [if_neg (by omega), if_neg (by omega), if_neg (by omega)]
    · refine ⟨?_, ?_, by simp [h3]⟩
      · rw [List.nodup_append]
        refine ⟨h1, by simp, fun x hx y hy e => ?_⟩
        rw [List.mem_singleton] at hy
        subst e hy
        obtain ⟨j, hj, e⟩ := mem_getD hx
        exact hno j hj e
      · rw [List.length_append, List.length_singleton, scan_snoc, scan_mono' h2]
        unfold scanStep
        simp only
        rw [if_neg (by omega), if_pos trivial]

/-- At a key not yet written the last entry of order names node. -/
theorem last_add {ns : List ByteArray} {os : List Int} {ks : List ByteArray} {node K : ByteArray} {ns' : List ByteArray} {os' : List Int} {ks' : List ByteArray} (ha : AddP ns os ks node K ns' os' ks') (hm : memB ks K = false) :
    ∃ i : Nat, os' = os ++ [(i : Int)] ∧ i < ns'.length ∧ ns'.getD i ByteArray.empty = node := by
  rcases ha with ⟨h, _⟩ | ⟨_, hr, _⟩
  · rw [hm] at h; cases h
  · rcases hr with ⟨i, hi, hat, rfl, rfl⟩ | ⟨hno, rfl, rfl⟩
    · exact ⟨i, rfl, hi, hat⟩
    · exact ⟨ns.length, rfl, by simp, by simp⟩

theorem len_add {ns : List ByteArray} {os : List Int} {ks : List ByteArray} {node K : ByteArray} {ns' : List ByteArray} {os' : List Int} {ks' : List ByteArray} (ha : AddP ns os ks node K ns' os' ks') :
    ns'.length ≤ ns.length + 1 ∧ os'.length ≤ os.length + 1 ∧ ∀ s ∈ ns', s ∈ ns ∨ s = node := by
  rcases ha with ⟨_, rfl, rfl, rfl⟩ | ⟨_, hr, _⟩
  · exact ⟨by omega, by omega, fun s hs => .inl hs⟩
  · rcases hr with ⟨i, hi, hat, rfl, rfl⟩ | ⟨hno, rfl, rfl⟩
    · exact ⟨by omega, by simp, fun s hs => .inl hs⟩
    · exact ⟨by simp, by simp, fun s hs => by simpa using hs⟩

/-! ### worlds -/
theorem owns_below {w w' : World} {base : Nat} {e : TypeId} {size : Nat} {v : Value} {n : Nat} {xs : List Value} (h : w.ownsRow base e size v n xs) {B : Nat} (hB : w.heap.size ≤ B) (hb : Below B w w') : w'.ownsRow base e size v n xs := by
  refine ⟨h.1, ?_⟩
  rcases h.2 with e | ⟨g, cap, cur, hv, hbg, hg, rest⟩
  · exact .inl e
  · exact .inr ⟨g, cap, cur, hv, hbg, (hb.block g (by have := lt_of_block hg; omega)).trans hg, rest⟩
theorem owns_base {w : World} {base base' : Nat} {e : TypeId} {size : Nat} {v : Value} {n : Nat} {xs : List Value} (h : w.ownsRow base e size v n xs) (hb : base' ≤ base) : w.ownsRow base' e size v n xs := by
  refine ⟨h.1, ?_⟩
  rcases h.2 with e | ⟨g, cap, cur, hv, hbg, rest⟩
  · exact .inl e
  · exact .inr ⟨g, cap, cur, hv, Nat.le_trans hb hbg, rest⟩
theorem MSet.lt {w : World} {r : Option Nat} {m : Nat} {ks : List ByteArray} (h : MSet w r m ks) : ∀ b, r = some b → b < w.heap.size := by
  intro b hb
  rcases h with ⟨e, _⟩ | ⟨b', e, hs⟩
  · rw [e] at hb; cases hb
  · rw [e] at hb; cases hb; exact World.ownsMap.lt hs
end Go.Proofs.Qxb6603923aMods
