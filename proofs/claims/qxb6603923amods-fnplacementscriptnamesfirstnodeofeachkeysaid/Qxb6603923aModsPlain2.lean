/-
  The plain laws of the script: the placements after 0, 1, 2, .. adds.
-/
import Derived.Test.Qxb6603923aModsPlain1
namespace Go.Proofs.Qxb6603923aMods
open Go.RowKit Go.Maps

structure S3 where
  ns : List ByteArray
  os : List Int
  ks : List ByteArray

/-- f k: the placement after k adds, up to n. -/
def Hist (nodes keys : List ByteArray) (n : Nat) (f : Nat → S3) : Prop :=
  f 0 = ⟨[], [], []⟩ ∧ ∀ k, k < n → AddP (f k).ns (f k).os (f k).ks (nodes.getD k ByteArray.empty) (keys.getD k ByteArray.empty) (f (k + 1)).ns (f (k + 1)).os (f (k + 1)).ks

theorem hist_start (nodes keys : List ByteArray) : Hist nodes keys 0 (fun _ => ⟨[], [], []⟩) := ⟨rfl, fun k hk => by omega⟩
theorem hist_step {nodes keys : List ByteArray} {n : Nat} {f : Nat → S3} (h : Hist nodes keys n f) {s : S3} (hs : AddP (f n).ns (f n).os (f n).ks (nodes.getD n ByteArray.empty) (keys.getD n ByteArray.empty) s.ns s.os s.ks) :
    Hist nodes keys (n + 1) (fun j => if j ≤ n then f j else s) := by
  refine ⟨by simp [h.1], fun k hk => ?_⟩
  by_cases hkn : k < n
  · simp only [show k ≤ n from by omega, show k + 1 ≤ n from by omega, if_true]
    exact h.2 k hkn
  · obtain rfl : k = n := by omega
    simp only [Nat.le_refl, if_true, show ¬ k + 1 ≤ k from by omega, if_false]
    exact hs

section
variable {nodes keys : List ByteArray} {n : Nat} {f : Nat → S3}

theorem hist_wf (h : Hist nodes keys n f) : ∀ k, k ≤ n → WF (f k).ns (f k).os (dcount (f k).ks)
  | 0, _ => by rw [h.1]; exact ⟨by simp, rfl, rfl⟩
  | k + 1, hk => (wf_add (hist_wf h k (by omega)) (h.2 k (by omega))).1
theorem hist_len (h : Hist nodes keys n f) : ∀ k, k ≤ n → (f k).ns.length ≤ k ∧ (f k).os.length ≤ k
  | 0, _ => by rw [h.1]; exact ⟨Nat.le_refl _, Nat.le_refl _⟩
  | k + 1, hk => by
    have h1 := hist_len h k (by omega)
    have h2 := len_add (h.2 k (by omega))
    omega
theorem hist_str (h : Hist nodes keys n f) (hn : nodes.length = n) (hs : ∀ s ∈ nodes, s.size ≤ maxLen) : ∀ k, k ≤ n → ∀ s ∈ (f k).ns, s.size ≤ maxLen
  | 0, _ => by rw [h.1]; simp
  | k + 1, hk => by
    intro s hm
    rcases (len_add (h.2 k (by omega))).2.2 s hm with h1 | h1
    · exact hist_str h hn hs k (by omega) s h1
    · rw [h1]; exact hs _ (getD_mem nodes k ByteArray.empty (by omega))

theorem add_prefix {ns : List ByteArray} {os : List Int} {ks : List ByteArray} {node K : ByteArray} {ns' : List ByteArray} {os' : List Int} {ks' : List ByteArray} (ha : AddP ns os ks node K ns' os' ks') : ns <+: ns' ∧ os <+: os' ∧ ks <+: ks' := by
  rcases ha with ⟨_, rfl, rfl, rfl⟩ | ⟨_, hr, rfl⟩
  · exact ⟨List.prefix_refl _, List.prefix_refl _, List.prefix_refl _⟩
  · rcases hr with ⟨i, _, _, rfl, rfl⟩ | ⟨_, rfl, rfl⟩
    · exact ⟨List.prefix_refl _, List.prefix_append _ _, List.prefix_append _ _⟩
    · exact ⟨List.prefix_append _ _, List.prefix_append _ _, List.prefix_append _ _⟩
theorem hist_prefix (h : Hist nodes keys n f) (i : Nat) : ∀ d, i + d ≤ n → (f i).ns <+: (f (i + d)).ns ∧ (f i).os <+: (f (i + d)).os ∧ (f i).ks <+: (f (i + d)).ks
  | 0, _ => ⟨List.prefix_refl _, List.prefix_refl _, List.prefix_refl _⟩
  | d + 1, hd => by
    obtain ⟨a1, a2, a3⟩ := hist_prefix h i d (by omega)
    obtain ⟨b1, b2, b3⟩ := add_prefix (h.2 (i + d) (by omega))
    exact ⟨a1.trans b1, a2.trans b2, a3.trans b3⟩
theorem hist_prefix' (h : Hist nodes keys n f) {i : Nat} (hi : i ≤ n) : (f i).ns <+: (f n).ns ∧ (f i).os <+: (f n).os ∧ (f i).ks <+: (f n).ks := by
  have := hist_prefix h i (n - i) (by omega)
  rwa [show i + (n - i) = n from by omega] at this

/-- Each key of the script is written in the end. -/
theorem hist_key (h : Hist nodes keys n f) {i : Nat} (hi : i < n) : memB (f n).ks (keys.getD i ByteArray.empty) = true := by
  have h1 := (wf_add (hist_wf h i (by omega)) (h.2 i hi)).2
  rw [memB_iff] at h1 ⊢
  exact (hist_prefix' h (i := i + 1) (by omega)).2.2.subset h1
/-- A key seen before: nothing turns. -/
theorem hist_old (h : Hist nodes keys n f) {i : Nat} (hi : i < n) (hm : memB (f i).ks (keys.getD i ByteArray.empty) = true) : (f (i + 1)).ks = (f i).ks ∧ (f (i + 1)).os.length = (f i).os.length := by
  rcases h.2 i hi with ⟨_, _, h2, h3⟩ | ⟨hf, _⟩
  · exact ⟨h3, by rw [h2]⟩
  · rw [hm] at hf; cases hf
theorem prefix_getD {α : Type} {l l' : List α} (h : l <+: l') {i : Nat} (hi : i < l.length) (d : α) : l'.getD i d = l.getD i d := by
  obtain ⟨t, rfl⟩ := h
  simp [List.getD, List.getElem?_append, hi]
/-- A key not seen before: its entry of order names the node. -/
theorem hist_new (h : Hist nodes keys n f) {i : Nat} (hi : i < n) (hm : memB (f i).ks (keys.getD i ByteArray.empty) = false) :
    (f (i + 1)).ks = (f i).ks ++ [keys.getD i ByteArray.empty] ∧ (f (i + 1)).os.length = (f i).os.length + 1 ∧ (f i).os.length < (f n).os.length ∧
      ∃ x : Nat, (f n).os.getD (f i).os.length 0 = (x : Int) ∧ x < (f n).ns.length ∧ (f n).ns.getD x ByteArray.empty = nodes.getD i ByteArray.empty := by
  obtain ⟨x, hx, hxl, hxn⟩ := last_add (h.2 i hi) hm
  obtain ⟨p1, p2, p3⟩ := hist_prefix' h (i := i + 1) (by omega)
  have hol : (f (i + 1)).os.length = (f i).os.length + 1 := by rw [hx]; simp
  refine ⟨?_, hol, ?_, x, ?_, Nat.lt_of_lt_of_le hxl p1.length_le, ?_⟩
  · rcases h.2 i hi with ⟨hf, _⟩ | ⟨_, _, h3⟩
    · rw [hm] at hf; cases hf
    · exact h3
  · have := p2.length_le; omega
  · rw [prefix_getD p2 (by omega), hx]; simp
  · rw [prefix_getD p1 hxl, hxn]
end
end Go.Proofs.Qxb6603923aMods
