/-
  The plain laws of without. No Go in sight.
-/
import Derived.Test.Qxb6603923aModsRunsPlain
namespace Go.Proofs.Qxb6603923aMods

/-! ### without -/
def zz (zs : List Int) (j : Nat) : Int := zs.getD j 0
def Asc (zs : List Int) : Prop := ∀ j, j + 1 < zs.length → zz zs j ≤ zz zs (j + 1)
theorem asc_le {zs : List Int} (h : Asc zs) : ∀ d i, i + d < zs.length → zz zs i ≤ zz zs (i + d)
  | 0, _, _ => Int.le_refl _
  | d + 1, i, hi => by
    have h1 := asc_le h d i (by omega)
    have h2 := h (i + d) (by omega)
    have e : i + (d + 1) = i + d + 1 := by omega
    rw [e]; omega
theorem asc_mono {zs : List Int} (h : Asc zs) {i j : Nat} (hij : i ≤ j) (hj : j < zs.length) : zz zs i ≤ zz zs j := by
  have := asc_le h (j - i) i (by omega)
  rwa [show i + (j - i) = j from by omega] at this

/-- lo: how many of zs are below x. -/
def LB (zs : List Int) (x : Int) (lo : Nat) : Prop := lo ≤ zs.length ∧ (∀ i, i < lo → zz zs i < x) ∧ ∀ i, lo ≤ i → i < zs.length → x ≤ zz zs i

/-- Does v lie in a run? Is the j-th the first of its like? -/
def inB (ps : List (Int × Int)) (v : Int) : Bool := ps.any fun p => decide (p.1 ≤ v) && decide (v < p.2)
def dB (zs : List Int) (j : Nat) : Bool := j == 0 || zz zs j != zz zs (j - 1)
/-- How many of the first m are struck. -/
def rem (zs : List Int) (ps : List (Int × Int)) : Nat → Int
  | 0 => 0
  | m + 1 => rem zs ps m + if dB zs m && inB ps (zz zs m) then 1 else 0

theorem inB_iff (ps : List (Int × Int)) (v : Int) : inB ps v = true ↔ ∃ r, r < ps.length ∧ pf ps r ≤ v ∧ v < pe ps r := by
  unfold inB
  rw [List.any_eq_true]
  constructor
  · rintro ⟨p, hp, h⟩
    obtain ⟨r, hr, e⟩ := List.mem_iff_getElem.1 hp
    simp only [Bool.and_eq_true, decide_eq_true_eq] at h
    refine ⟨r, hr, ?_, ?_⟩
    · simp [pf, List.getD, hr, e, h.1]
    · simp [pe, List.getD, hr, e, h.2]
  · rintro ⟨r, hr, h1, h2⟩
    refine ⟨ps[r], List.getElem_mem hr, ?_⟩
    simp [pf, pe, List.getD, hr] at h1 h2
    simp [h1, h2]
theorem inB_false {ps : List (Int × Int)} {v : Int} (h : ∀ r, r < ps.length → v < pf ps r ∨ pe ps r ≤ v) : inB ps v = false := by
  cases e : inB ps v
  · rfl
  · obtain ⟨r, hr, h1, h2⟩ := (inB_iff ps v).1 e
    rcases h r hr with h | h <;> omega

theorem rem_skip (zs : List Int) (ps : List (Int × Int)) (m : Nat) : ∀ d, (∀ t, m ≤ t → t < m + d → inB ps (zz zs t) = false) → rem zs ps (m + d) = rem zs ps m
  | 0, _ => rfl
  | d + 1, h => by
    have e : m + (d + 1) = m + d + 1 := by omega
    rw [e]
    simp only [rem, h (m + d) (by omega) (by omega), Bool.and_false, Bool.false_eq_true, if_false, Int.add_zero]
    exact rem_skip zs ps m d (fun t h1 h2 => h t h1 (by omega))
theorem rem_skip' {zs : List Int} {ps : List (Int × Int)} {m m' : Nat} (hm : m ≤ m') (h : ∀ t, m ≤ t → t < m' → inB ps (zz zs t) = false) : rem zs ps m' = rem zs ps m := by
  have := rem_skip zs ps m (m' - m) (fun t h1 h2 => h t h1 (by omega))
  rwa [show m + (m' - m) = m' from by omega] at this
theorem rem_bound (zs : List Int) (ps : List (Int × Int)) : ∀ m, 0 ≤ rem zs ps m ∧ rem zs ps m ≤ m
  | 0 => ⟨Int.le_refl _, Int.le_refl _⟩
  | m + 1 => by
    have := rem_bound zs ps m
    simp only [rem]
    split <;> omega

/-- A run of the answer is one of the first k runs cut free of zs. -/
def Free (zs : List Int) (ps : List (Int × Int)) (k : Nat) (f e : Int) : Prop := (∃ j, j < k ∧ j < ps.length ∧ pf ps j ≤ f ∧ e ≤ pe ps j) ∧ ∀ t, t < zs.length → zz zs t < f ∨ e ≤ zz zs t
def AllFree (zs : List Int) (ps : List (Int × Int)) (k : Nat) (l : List (Int × Int)) : Prop := ∀ i, i < l.length → Free zs ps k (pf l i) (pe l i)
theorem Free.mono {zs : List Int} {ps : List (Int × Int)} {k k' : Nat} {f e : Int} (h : Free zs ps k f e) (hk : k ≤ k') : Free zs ps k' f e := by
  obtain ⟨⟨j, hj, r⟩, h2⟩ := h
  exact ⟨⟨j, by omega, r⟩, h2⟩
theorem allFree_snoc {zs : List Int} {ps : List (Int × Int)} {k : Nat} {l : List (Int × Int)} {f e : Int} (h : AllFree zs ps k l) (hf : Free zs ps k f e) : AllFree zs ps k (l ++ [(f, e)]) := by
  intro i hi
  rw [List.length_append, List.length_singleton] at hi
  by_cases hil : i < l.length
  · rw [pf_left hil, pe_left hil]; exact h i hil
  · obtain rfl : i = l.length := by omega
    rw [pf_last, pe_last]; exact hf

/-- Behind k runs. -/
structure Outer (zs : List Int) (ps : List (Int × Int)) (k : Nat) (l : List (Int × Int)) : Prop where
  isR : IsR l
  free : AllFree zs ps k l
  size : ∃ m, m ≤ zs.length ∧ l.length ≤ k + m ∧ sz l = sz (ps.take k) - rem zs ps m ∧ (∀ t, t < m → 0 < k ∧ zz zs t < pe ps (k - 1)) ∧ ∀ t, m ≤ t → t < zs.length → k = 0 ∨ pe ps (k - 1) ≤ zz zs t

/-- Within run k, at index i, the next run may begin at x. -/
structure Inner (zs : List Int) (ps : List (Int × Int)) (k i : Nat) (x : Int) (l : List (Int × Int)) : Prop where
  isR : IsR l
  ends : ∀ j, j < l.length → pe l j < x
  free : AllFree zs ps (k + 1) l
  len : l.length ≤ k + i
  size : sz l = sz (ps.take k) + (x - pf ps k) - rem zs ps i
  lo : pf ps k ≤ x
  hi : x ≤ pe ps k
  idx : i ≤ zs.length
  below : ∀ t, t < i → zz zs t < x
  above : ∀ t, i ≤ t → t < zs.length → x ≤ zz zs t ∨ (zz zs t = x - 1 ∧ 0 < i ∧ zz zs (i - 1) = x - 1)

theorem outer_start (zs : List Int) (ps : List (Int × Int)) : Outer zs ps 0 [] :=
  ⟨isR_nil, fun i hi => by simp at hi, 0, Nat.zero_le _, by simp, by simp [sz, rem], fun t ht => by omega, fun t _ _ => .inl rfl⟩

theorem inner_start {zs : List Int} {ps l : List (Int × Int)} {k i : Nat} (hp : IsR ps) (hk : k < ps.length) (h : Outer zs ps k l) (hb : LB zs (pf ps k) i) : Inner zs ps k i (pf ps k) l := by
  obtain ⟨h1, h2, m, hm, hlen, hs, hlo, hhi⟩ := h
  obtain ⟨b1, b2, b3⟩ := hb
  have hprev : 0 < k → pe ps (k - 1) < pf ps k := fun h0 => isR_lt hp (by omega) hk
  have hmi : m ≤ i := by
    by_cases hmi : m ≤ i
    · exact hmi
    · have h3 := hlo i (by omega)
      have h4 := b3 i (Nat.le_refl _) (by omega)
      have h5 := hprev h3.1
      omega
  have hrem : rem zs ps i = rem zs ps m := by
    refine rem_skip' hmi (fun t ht1 ht2 => inB_false (fun r hr => ?_))
    have h3 := b2 t ht2
    by_cases hrk : k ≤ r
    · left
      have := isR_firsts hp hrk hr
      omega
    · right
      rcases hhi t ht1 (by omega) with h0 | h0
      · omega
      · by_cases hrl : r = k - 1
        · rw [hrl]; exact h0
        · have := isR_lt hp (show r < k - 1 from by omega) (by omega)
          have := hp.1 (k - 1) (by omega)
          omega
  refine ⟨h1, fun j hj => ?_, fun j hj => (h2 j hj).mono (by omega), by omega, by rw [hrem, hs]; omega, Int.le_refl _, Int.le_of_lt (hp.1 k hk), b1, b2, fun t ht1 ht2 => .inl (b3 t ht1 ht2)⟩
  obtain ⟨⟨r, hr, hrl, _, e2⟩, _⟩ := h2 j hj
  have := isR_lt hp hr hk
  omega

theorem rem_hit {zs : List Int} {ps : List (Int × Int)} {i : Nat} (h1 : i = 0 ∨ zz zs i ≠ zz zs (i - 1)) (h2 : inB ps (zz zs i) = true) : rem zs ps (i + 1) = rem zs ps i + 1 := by
  have : dB zs i = true := by
    unfold dB
    rcases h1 with h | h
    · simp [h]
    · simp [h]
  simp [rem, this, h2]
theorem rem_dup {zs : List Int} {ps : List (Int × Int)} {i : Nat} (h0 : 0 < i) (h1 : zz zs i = zz zs (i - 1)) : rem zs ps (i + 1) = rem zs ps i := by
  have : dB zs i = false := by
    unfold dB
    have : (i == 0) = false := by simp; omega
    simp [this, h1]
  simp [rem, this]

/-- One element above x: a run is made. -/
theorem inner_above {zs : List Int} {ps l : List (Int × Int)} {k i : Nat} {x : Int} (ha : Asc zs) (hk : k < ps.length) (h : Inner zs ps k i x l) (hi : i < zs.length) (he : zz zs i < pe ps k) (hx : x < zz zs i) :
    Inner zs ps k (i + 1) (zz zs i + 1) (l ++ [(x, zz zs i)]) := by
  have hlow := h.lo
  have hlen := h.len
  have hin : inB ps (zz zs i) = true := (inB_iff _ _).2 ⟨k, hk, by omega, he⟩
  have hrem := rem_hit (zs := zs) (ps := ps) (i := i) (by
    by_cases h0 : i = 0
    · exact .inl h0
    · exact .inr (fun e => by have := h.below (i - 1) (by omega); omega)) hin
  refine ⟨isR_snoc h.isR (fun hp => h.ends _ (by omega)) hx, fun j hj => ?_, allFree_snoc h.free ⟨⟨k, by omega, hk, by omega, by omega⟩, fun t ht => ?_⟩, by simp; omega, ?_, by omega, by omega, by omega, fun t ht => ?_, fun t ht1 ht2 => ?_⟩
  · rw [List.length_append, List.length_singleton] at hj
    by_cases hjl : j < l.length
    · rw [pe_left hjl]; have := h.ends j hjl; omega
    · obtain rfl : j = l.length := by omega
      rw [pe_last]; show zz zs i < zz zs i + 1; omega
  · by_cases hti : t < i
    · exact .inl (h.below t hti)
    · exact .inr (asc_mono ha (by omega) ht)
  · rw [sz_snoc, hrem, h.size]; omega
  · by_cases hti : t < i
    · have := h.below t hti; omega
    · obtain rfl : t = i := by omega
      omega
  · have := asc_mono ha (show i ≤ t from by omega) ht2
    by_cases e : zz zs i + 1 ≤ zz zs t
    · exact .inl e
    · exact .inr ⟨by omega, by omega, by rw [Nat.add_sub_cancel]; omega⟩

/-- One element at x, or one met before. -/
theorem inner_at {zs : List Int} {ps l : List (Int × Int)} {k i : Nat} {x : Int} (ha : Asc zs) (hk : k < ps.length) (h : Inner zs ps k i x l) (hi : i < zs.length) (he : zz zs i < pe ps k) (hx : ¬ x < zz zs i) :
    Inner zs ps k (i + 1) (zz zs i + 1) l := by
  have hlow := h.lo
  have hlen := h.len
  by_cases hxe : zz zs i = x
  · have hin : inB ps (zz zs i) = true := (inB_iff _ _).2 ⟨k, hk, by omega, he⟩
    have hrem := rem_hit (zs := zs) (ps := ps) (i := i) (by
      by_cases h0 : i = 0
      · exact .inl h0
      · exact .inr (fun e => by have := h.below (i - 1) (by omega); omega)) hin
    refine ⟨h.isR, fun j hj => by have := h.ends j hj; omega, h.free, by omega, by rw [hrem, h.size]; omega, by omega, by omega, by omega, fun t ht => ?_, fun t ht1 ht2 => ?_⟩
    · by_cases hti : t < i
      · have := h.below t hti; omega
      · obtain rfl : t = i := by omega
        omega
    · have := asc_mono ha (show i ≤ t from by omega) ht2
      by_cases e : zz zs i + 1 ≤ zz zs t
      · exact .inl e
      · exact .inr ⟨by omega, by omega, by rw [Nat.add_sub_cancel]; omega⟩
  · rcases h.above i (Nat.le_refl _) hi with h1 | ⟨h1, h2, h3⟩
    · omega
    · have ex : zz zs i + 1 = x := by omega
      rw [ex]
      refine ⟨h.isR, h.ends, h.free, by omega, by rw [rem_dup h2 (by omega)]; exact h.size, h.lo, h.hi, by omega, fun t ht => ?_, fun t ht1 ht2 => ?_⟩
      · by_cases hti : t < i
        · exact h.below t hti
        · obtain rfl : t = i := by omega
          omega
      · rcases h.above t (by omega) ht2 with g | ⟨g, _, _⟩
        · exact .inl g
        · exact .inr ⟨g, by omega, by rw [Nat.add_sub_cancel]; omega⟩

/-- The end of a run. -/
theorem inner_end_yes {zs : List Int} {ps l : List (Int × Int)} {k i : Nat} {x : Int} (ha : Asc zs) (hk : k < ps.length) (h : Inner zs ps k i x l) (he : i < zs.length → pe ps k ≤ zz zs i) (hx : x < pe ps k) :
    Outer zs ps (k + 1) (l ++ [(x, pe ps k)]) := by
  have hup : ∀ t, i ≤ t → t < zs.length → pe ps k ≤ zz zs t := fun t h1 h2 => by
    have := asc_mono ha h1 h2
    have := he (by omega)
    omega
  have hlen := h.len
  refine ⟨isR_snoc h.isR (fun hp => h.ends _ (by omega)) hx, allFree_snoc h.free ⟨⟨k, by omega, hk, h.lo, Int.le_refl _⟩, fun t ht => ?_⟩, i, h.idx, by simp; omega, ?_, fun t ht => ⟨by omega, ?_⟩, fun t h1 h2 => .inr ?_⟩
  · by_cases hti : t < i
    · exact .inl (h.below t hti)
    · exact .inr (hup t (by omega) ht)
  · rw [sz_snoc, sz_take ps hk, h.size]; omega
  · rw [Nat.add_sub_cancel]; have := h.below t ht; omega
  · rw [Nat.add_sub_cancel]; exact hup t h1 h2
theorem inner_end_no {zs : List Int} {ps l : List (Int × Int)} {k i : Nat} {x : Int} (ha : Asc zs) (hk : k < ps.length) (h : Inner zs ps k i x l) (he : i < zs.length → pe ps k ≤ zz zs i) (hx : ¬ x < pe ps k) :
    Outer zs ps (k + 1) l := by
  have hup : ∀ t, i ≤ t → t < zs.length → pe ps k ≤ zz zs t := fun t h1 h2 => by
    have := asc_mono ha h1 h2
    have := he (by omega)
    omega
  have hh := h.hi
  have hlen := h.len
  refine ⟨h.isR, h.free, i, h.idx, by omega, ?_, fun t ht => ⟨by omega, ?_⟩, fun t h1 h2 => .inr ?_⟩
  · rw [sz_take ps hk, h.size]; omega
  · rw [Nat.add_sub_cancel]; have := h.below t ht; omega
  · rw [Nat.add_sub_cancel]; exact hup t h1 h2

/-- In the end: what the law asks. -/
theorem outer_size {zs : List Int} {ps l : List (Int × Int)} (hp : IsR ps) (h : Outer zs ps ps.length l) : sz l = sz ps - rem zs ps zs.length := by
  obtain ⟨_, _, m, hm, _, hs, _, hhi⟩ := h
  rw [List.take_length] at hs
  have : rem zs ps zs.length = rem zs ps m := rem_skip' hm (fun t h1 h2 => inB_false (fun r hr => by
    right
    rcases hhi t h1 h2 with h0 | h0
    · omega
    · by_cases hrl : r = ps.length - 1
      · rw [hrl]; exact h0
      · have := isR_lt hp (show r < ps.length - 1 from by omega) (by omega)
        have := hp.1 (ps.length - 1) (by omega)
        omega))
  rw [this, hs]
theorem outer_len {zs : List Int} {ps l : List (Int × Int)} {k : Nat} (h : Outer zs ps k l) : l.length ≤ k + zs.length := by
  obtain ⟨_, _, m, hm, h1, _⟩ := h
  omega
theorem outer_run {zs : List Int} {ps l : List (Int × Int)} (hp : IsR ps) (h : Outer zs ps ps.length l) {i : Nat} (hi : i < l.length) :
    (∀ lo, AtB ps (pf l i) lo → 0 < lo ∧ pe l i ≤ pe ps (lo - 1)) ∧ ∀ j, LB zs (pf l i) j → j < zs.length → pe l i ≤ zz zs j := by
  obtain ⟨⟨r, hr, hrl, e1, e2⟩, hz⟩ := h.free i hi
  have hlt := h.isR.1 i hi
  constructor
  · intro lo hb
    have := atB_in hp hb hrl e1 (by omega)
    subst this
    exact ⟨by omega, by rw [Nat.add_sub_cancel]; exact e2⟩
  · intro j hb hj
    have h1 := hb.2.2 j (Nat.le_refl _) hj
    rcases hz j hj with h2 | h2
    · omega
    · exact h2
/-- The law's own test whether a tid lies in a run. -/
theorem inB_search {ps : List (Int × Int)} (hp : IsR ps) {v : Int} {lo : Nat} (hb : AtB ps v lo) : inB ps v = true ↔ 0 < lo ∧ v < pe ps (lo - 1) := by
  rw [inB_iff]
  constructor
  · rintro ⟨r, hr, h1, h2⟩
    have := atB_in hp hb hr h1 h2
    subst this
    exact ⟨by omega, by rw [Nat.add_sub_cancel]; exact h2⟩
  · rintro ⟨h1, h2⟩
    have h3 := hb.1
    exact ⟨lo - 1, by omega, hb.2.1 (lo - 1) (by omega), h2⟩

end Go.Proofs.Qxb6603923aMods
