/-
  Runs of tids as lists of pairs (first, end): the plain laws of without and unended. No Go in sight.
-/
namespace Go.Proofs.Qxb6603923aMods

/-- The first and the end of the j-th pair. -/
def pf (ps : List (Int × Int)) (j : Nat) : Int := (ps.getD j (0, 0)).1
def pe (ps : List (Int × Int)) (j : Nat) : Int := (ps.getD j (0, 0)).2

/-- No run is empty, they ascend, with a gap between two. -/
def IsR (ps : List (Int × Int)) : Prop := (∀ j, j < ps.length → pf ps j < pe ps j) ∧ ∀ j, j + 1 < ps.length → pe ps j < pf ps (j + 1)

theorem getD_app_left {α : Type} {l r : List α} {j : Nat} {d : α} (h : j < l.length) : (l ++ r).getD j d = l.getD j d := by
  simp [List.getD, List.getElem?_append, h]
theorem getD_app_last {α : Type} {l : List α} {x d : α} : (l ++ [x]).getD l.length d = x := by
  simp [List.getD]
theorem pf_left {l r : List (Int × Int)} {j : Nat} (h : j < l.length) : pf (l ++ r) j = pf l j := by unfold pf; rw [getD_app_left h]
theorem pe_left {l r : List (Int × Int)} {j : Nat} (h : j < l.length) : pe (l ++ r) j = pe l j := by unfold pe; rw [getD_app_left h]
theorem pf_last {l : List (Int × Int)} {x : Int × Int} : pf (l ++ [x]) l.length = x.1 := by unfold pf; rw [getD_app_last]
theorem pe_last {l : List (Int × Int)} {x : Int × Int} : pe (l ++ [x]) l.length = x.2 := by unfold pe; rw [getD_app_last]

theorem isR_nil : IsR [] := ⟨fun j hj => by simp at hj, fun j hj => by simp at hj⟩
/-- A run at the end. -/
theorem isR_snoc {l : List (Int × Int)} {f e : Int} (h : IsR l) (hl : 0 < l.length → pe l (l.length - 1) < f) (hf : f < e) : IsR (l ++ [(f, e)]) := by
  constructor
  · intro j hj
    rw [List.length_append, List.length_singleton] at hj
    by_cases hjl : j < l.length
    · rw [pf_left hjl, pe_left hjl]; exact h.1 j hjl
    · obtain rfl : j = l.length := by omega
      rw [pf_last, pe_last]; exact hf
  · intro j hj
    rw [List.length_append, List.length_singleton] at hj
    by_cases hjl : j + 1 < l.length
    · rw [pf_left hjl, pe_left (by omega)]; exact h.2 j hjl
    · have e1 : j + 1 = l.length := by omega
      rw [e1, pf_last, pe_left (by omega)]
      have := hl (by omega)
      rwa [show j = l.length - 1 from by omega]
theorem isR_mono {ps : List (Int × Int)} (h : IsR ps) : ∀ d i, i + d + 1 < ps.length → pe ps i < pf ps (i + d + 1)
  | 0, i, hi => h.2 i hi
  | d + 1, i, hi => by
    have h1 := isR_mono h d i (by omega)
    have h2 := h.1 (i + d + 1) (by omega)
    have h3 := h.2 (i + d + 1) (by omega)
    have e : i + (d + 1) + 1 = i + d + 1 + 1 := by omega
    rw [e]; omega
theorem isR_lt {ps : List (Int × Int)} (h : IsR ps) {i j : Nat} (hij : i < j) (hj : j < ps.length) : pe ps i < pf ps j := by
  have := isR_mono h (j - i - 1) i (by omega)
  rwa [show i + (j - i - 1) + 1 = j from by omega] at this
theorem isR_firsts {ps : List (Int × Int)} (h : IsR ps) {i j : Nat} (hij : i ≤ j) (hj : j < ps.length) : pf ps i ≤ pf ps j := by
  by_cases e : i = j
  · rw [e]; exact Int.le_refl _
  · have h1 := isR_lt h (show i < j from by omega) hj
    have h2 := h.1 i (by omega)
    omega

/-- How many tids. -/
def sz : List (Int × Int) → Int
  | [] => 0
  | p :: r => (p.2 - p.1) + sz r
theorem sz_app (l r : List (Int × Int)) : sz (l ++ r) = sz l + sz r := by
  induction l with
  | nil => simp [sz]
  | cons p l ih => simp only [List.cons_append, sz, ih]; omega
theorem sz_snoc (l : List (Int × Int)) (f e : Int) : sz (l ++ [(f, e)]) = sz l + (e - f) := by rw [sz_app]; simp [sz]
theorem sz_take (ps : List (Int × Int)) {k : Nat} (h : k < ps.length) : sz (ps.take (k + 1)) = sz (ps.take k) + (pe ps k - pf ps k) := by
  rw [List.take_succ_eq_append_getElem h, sz_app]
  simp [sz, pf, pe, List.getD, h]

/-! ### the search -/
/-- lo: how many runs begin at or below x. -/
def AtB (ps : List (Int × Int)) (x : Int) (lo : Nat) : Prop := lo ≤ ps.length ∧ (∀ i, i < lo → pf ps i ≤ x) ∧ ∀ i, lo ≤ i → i < ps.length → x < pf ps i
/-- If x lies in run j, the search finds j. -/
theorem atB_in {ps : List (Int × Int)} (h : IsR ps) {x : Int} {lo j : Nat} (hb : AtB ps x lo) (hj : j < ps.length) (h1 : pf ps j ≤ x) (h2 : x < pe ps j) : lo = j + 1 := by
  obtain ⟨b1, b2, b3⟩ := hb
  by_cases hjl : j < lo
  · by_cases hlt : j + 1 < lo
    · have := b2 (j + 1) hlt
      have := h.2 j (by omega)
      omega
    · omega
  · have := b3 j (by omega) hj
    omega

/-! ### unended -/
/-- The runs of ps from low on. -/
def cut (low : Int) : List (Int × Int) → List (Int × Int)
  | [] => []
  | p :: r => if max p.1 low < p.2 then (max p.1 low, p.2) :: cut low r else cut low r
theorem cut_app (low : Int) (l r : List (Int × Int)) : cut low (l ++ r) = cut low l ++ cut low r := by
  induction l with
  | nil => rfl
  | cons p l ih =>
    simp only [List.cons_append, cut]
    split
    · rw [ih]; rfl
    · exact ih
theorem cut_one (low f e : Int) : cut low [(f, e)] = if max f low < e then [(max f low, e)] else [] := rfl
theorem take_pair (ps : List (Int × Int)) {k : Nat} (h : k < ps.length) : ps.take (k + 1) = ps.take k ++ [(pf ps k, pe ps k)] := by
  have e : (pf ps k, pe ps k) = ps[k] := by simp [pf, pe, List.getD, h]
  rw [List.take_succ_eq_append_getElem h, e]
theorem cut_take_yes (low : Int) (ps : List (Int × Int)) {k : Nat} (h : k < ps.length) (hc : max (pf ps k) low < pe ps k) : cut low (ps.take (k + 1)) = cut low (ps.take k) ++ [(max (pf ps k) low, pe ps k)] := by
  rw [take_pair ps h, cut_app, cut_one, if_pos hc]
theorem cut_take_no (low : Int) (ps : List (Int × Int)) {k : Nat} (h : k < ps.length) (hc : ¬ max (pf ps k) low < pe ps k) : cut low (ps.take (k + 1)) = cut low (ps.take k) := by
  rw [take_pair ps h, cut_app, cut_one, if_neg hc, List.append_nil]

/-- Each run of the cut is one of ps, from low on. -/
def CutOf (low : Int) (ps : List (Int × Int)) (l : List (Int × Int)) (k : Nat) : Prop := ∀ i, i < l.length → ∃ j, j < k ∧ j < ps.length ∧ pf l i = max (pf ps j) low ∧ pe l i = pe ps j ∧ max (pf ps j) low < pe ps j
theorem cut_spec (low : Int) (ps : List (Int × Int)) (h : IsR ps) : ∀ k, k ≤ ps.length → IsR (cut low (ps.take k)) ∧ CutOf low ps (cut low (ps.take k)) k
  | 0, _ => by
    rw [List.take_zero]
    exact ⟨isR_nil, fun i hi => by simp [cut] at hi⟩
  | k + 1, hk => by
    obtain ⟨h1, h2⟩ := cut_spec low ps h k (by omega)
    by_cases hc : max (pf ps k) low < pe ps k
    · rw [cut_take_yes low ps (by omega) hc]
      constructor
      · refine isR_snoc h1 (fun hp => ?_) hc
        obtain ⟨j, hj, hjl, _, e2, _⟩ := h2 _ (show (cut low (ps.take k)).length - 1 < _ from by omega)
        rw [e2]
        have := isR_lt h hj (by omega)
        omega
      · intro i hi
        rw [List.length_append, List.length_singleton] at hi
        by_cases hil : i < (cut low (ps.take k)).length
        · rw [pf_left hil, pe_left hil]
          obtain ⟨j, hj, r⟩ := h2 i hil
          exact ⟨j, by omega, r⟩
        · obtain rfl : i = (cut low (ps.take k)).length := by omega
          rw [pf_last, pe_last]
          exact ⟨k, by omega, by omega, rfl, rfl, hc⟩
    · rw [cut_take_no low ps (by omega) hc]
      refine ⟨h1, fun i hi => ?_⟩
      obtain ⟨j, hj, r⟩ := h2 i hi
      exact ⟨j, by omega, r⟩

/-- plus. -/
def plusF (s : List (Int × Int)) (f e : Int) : List (Int × Int) := if 0 < s.length ∧ pe s (s.length - 1) = f then s.dropLast ++ [(pf s (s.length - 1), e)] else s ++ [(f, e)]
/-- The last step of unended. -/
def finF (s : List (Int × Int)) (f high : Int) : List (Int × Int) := if f < high then plusF s f high else s

/-- What the law asks of each run of the answer. -/
def RunOk (low high ended : Int) (ps : List (Int × Int)) (f e : Int) : Prop :=
  low ≤ f ∧ e ≤ high ∧ (f < ended → ∀ lo, AtB ps f lo → 0 < lo ∧ min e ended ≤ pe ps (lo - 1))

theorem dropLast_snoc {α : Type} {l : List α} (h : 0 < l.length) (d : α) : l = l.dropLast ++ [l.getD (l.length - 1) d] := by
  have hne : l ≠ [] := fun e => by rw [e] at h; simp at h
  rw [show l.getD (l.length - 1) d = l.getLast hne from by rw [List.getLast_eq_getElem]; simp [List.getD, show l.length - 1 < l.length by omega]]
  exact (List.dropLast_concat_getLast hne).symm

theorem unended_law {low high ended : Int} {ps : List (Int × Int)} (h : IsR ps) (he : ended ≤ high) (hl : ∀ j, j < ps.length → pe ps j ≤ ended) :
    IsR (finF (cut low ps) (max low ended) high) ∧ (∀ i, i < (finF (cut low ps) (max low ended) high).length → RunOk low high ended ps (pf (finF (cut low ps) (max low ended) high) i) (pe (finF (cut low ps) (max low ended) high) i)) ∧
      sz (finF (cut low ps) (max low ended) high) = sz (cut low ps) + (if max low ended < high then high - max low ended else 0) := by
  obtain ⟨c1, c2⟩ := cut_spec low ps h ps.length (Nat.le_refl _)
  rw [List.take_length] at c1 c2
  have ok : ∀ i, i < (cut low ps).length → RunOk low high ended ps (pf (cut low ps) i) (pe (cut low ps) i) := by
    intro i hi
    obtain ⟨j, _, hj, e1, e2, e3⟩ := c2 i hi
    have := hl j hj
    refine ⟨by omega, by omega, fun hlt lo hb => ?_⟩
    have := atB_in h hb hj (by omega) (by omega)
    subst this
    rw [Nat.add_sub_cancel]
    omega
  have last_le : 0 < (cut low ps).length → pe (cut low ps) ((cut low ps).length - 1) ≤ ended ∧ low < pe (cut low ps) ((cut low ps).length - 1) := by
    intro hp
    obtain ⟨j, _, hj, e1, e2, e3⟩ := c2 _ (show (cut low ps).length - 1 < _ from by omega)
    have := hl j hj
    omega
  generalize cut low ps = s at *
  unfold finF
  by_cases hf : max low ended < high
  · rw [if_pos hf, if_pos hf]
    unfold plusF
    by_cases hj : 0 < s.length ∧ pe s (s.length - 1) = max low ended
    · rw [if_pos hj]
      obtain ⟨hp, hee⟩ := hj
      have hs := dropLast_snoc hp (0, 0)
      have hs2 : s = s.dropLast ++ [(pf s (s.length - 1), pe s (s.length - 1))] := hs
      have hdl : s.dropLast.length = s.length - 1 := by simp
      have hkeep : ∀ j, j < s.dropLast.length → pf s.dropLast j = pf s j ∧ pe s.dropLast j = pe s j := by
        intro j hj
        constructor
        · conv => rhs; rw [hs2]
          rw [pf_left hj]
        · conv => rhs; rw [hs2]
          rw [pe_left hj]
      have hlast := c1.1 (s.length - 1) (by omega)
      have hlo := last_le hp
      have hok := ok (s.length - 1) (by omega)
      refine ⟨isR_snoc ⟨fun j hj => ?_, fun j hj => ?_⟩ (fun hpp => ?_) (by omega), fun i hi => ?_, ?_⟩
      · rw [(hkeep j hj).1, (hkeep j hj).2]; exact c1.1 j (by omega)
      · rw [(hkeep j (by omega)).2, (hkeep (j + 1) (by omega)).1]; exact c1.2 j (by omega)
      · rw [(hkeep _ (by omega)).2]
        exact isR_lt c1 (by omega) (by omega)
      · rw [List.length_append, List.length_singleton] at hi
        by_cases hil : i < s.dropLast.length
        · rw [pf_left hil, pe_left hil, (hkeep i hil).1, (hkeep i hil).2]
          exact ok i (by omega)
        · obtain rfl : i = s.dropLast.length := by omega
          rw [pf_last, pe_last]
          refine ⟨hok.1, Int.le_refl _, fun hlt lo hb => ?_⟩
          obtain ⟨g1, g2⟩ := hok.2.2 hlt lo hb
          exact ⟨g1, by omega⟩
      · rw [sz_snoc]
        have e1 : sz s = sz s.dropLast + (pe s (s.length - 1) - pf s (s.length - 1)) := by
          conv => lhs; rw [hs2]
          rw [sz_snoc]
        omega
    · rw [if_neg hj]
      refine ⟨isR_snoc c1 (fun hp => ?_) hf, fun i hi => ?_, by rw [sz_snoc]⟩
      · have := last_le hp
        have : pe s (s.length - 1) ≠ max low ended := fun e => hj ⟨hp, e⟩
        omega
      · rw [List.length_append, List.length_singleton] at hi
        by_cases hil : i < s.length
        · rw [pf_left hil, pe_left hil]; exact ok i hil
        · obtain rfl : i = s.length := by omega
          rw [pf_last, pe_last]
          exact ⟨by show low ≤ max low ended; omega, Int.le_refl _, fun hlt => by have : max low ended < ended := hlt; omega⟩
  · rw [if_neg hf, if_neg hf]
    exact ⟨c1, ok, by omega⟩
end Go.Proofs.Qxb6603923aMods
