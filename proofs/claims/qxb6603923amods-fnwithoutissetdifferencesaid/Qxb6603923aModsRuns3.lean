/-
  plus; unended; ZZUnended.
-/
import Derived.Test.Qxb6603923aModsRuns2
import Derived.Test.Qxb6603923aModsLawAdd
namespace Go.Proofs.Qxb6603923aMods
open Go.RowKit

/-- Some slice value that owns the runs ps from block B on; below B nothing has turned. -/
def RetR (w : World) (B : Nat) (ps : List (Int × Int)) (en : Ending) (w' : World) : Prop := ∃ v, en = .returned v ∧ w'.ownsRow B 67 2 v ps.length (flat ps) ∧ Below B w w'

theorem plus_yes {s : List (Int × Int)} {f e : Int} (h : 0 < s.length) (hf : pe s (s.length - 1) = f) : plusF s f e = s.dropLast ++ [(pf s (s.length - 1), e)] := by
  unfold plusF; rw [if_pos ⟨h, hf⟩]
theorem plus_no {s : List (Int × Int)} {f e : Int} (h : ¬ (0 < s.length ∧ pe s (s.length - 1) = f)) : plusF s f e = s ++ [(f, e)] := by
  unfold plusF; rw [if_neg h]
theorem flat_set {s : List (Int × Int)} {e : Int} (h : 0 < s.length) : (flat s).set ((s.length - 1) * 2 + 1) (.int .u64 e) = flat (s.dropLast ++ [(pf s (s.length - 1), e)]) := by
  have hs : s = s.dropLast ++ [(pf s (s.length - 1), pe s (s.length - 1))] := dropLast_snoc h (0, 0)
  have hl : s.dropLast.length = s.length - 1 := by simp
  generalize pf s (s.length - 1) = x at *
  generalize pe s (s.length - 1) = y at *
  have e1 : flat s = flat s.dropLast ++ [.int .u64 x, .int .u64 y] := by conv => lhs; rw [hs]
                                                                         rw [flat_app, flat_one]
  rw [e1, flat_app, flat_one, List.set_append_right _ _ (by rw [flat_len]; omega), flat_len, hl, show (s.length - 1) * 2 + 1 - (s.length - 1) * 2 = 1 from by omega]
  rfl

theorem plus_own {w : World} {B : Nat} {v : Value} {n : Nat} {xs : List Value} (h : w.ownsRow B 67 2 v n xs) {o o' : Obj} (nq : Nat) : (((w.alloc o).drewN nq).alloc o').ownsRow B 67 2 v n xs := by
  have h1 : ((w.alloc o).drewN nq).ownsRow B 67 2 v n xs := h.alloc o
  exact h1.alloc o'
theorem plus_cells (w : World) (f e : Int) {o : Obj} (nq : Nat) : ∀ j u, [Value.int .u64 f, Value.int .u64 e][j]? = some u → (((w.alloc o).drewN nq).alloc (.cells #[.int .u64 f, .int .u64 e] 67)).cell? ((⟨w.heap.size + 1, 0, none⟩ : Addr).add j) = some u :=
  cell_pair_new' ((w.alloc o).drewN nq) _ _ _ _ (by show (w.alloc o).heap.size = _; simp)
theorem plus_below (w : World) {B : Nat} (hB : B ≤ w.heap.size) {o o' : Obj} (nq : Nat) : Below B w (((w.alloc o).drewN nq).alloc o') :=
  (below_drewN ((Below.refl _ _).alloc hB o) nq).alloc (by show B ≤ (w.alloc o).heap.size; simp; omega) o'

theorem plus_join {w : World} {B b off c : Nat} {s : List (Int × Int)} {f e : Int} (h : w.ownsRow B 67 2 (.slice (some ⟨b, off, none⟩) s.length c) s.length (flat s)) (he : plusF s f e = s.dropLast ++ [(pf s (s.length - 1), e)]) (hp : 0 < s.length) (ho : off = 0) (hB : B ≤ w.heap.size) {o : Obj} (nq : Nat) :
    RetR w B (plusF s f e) (.returned (.slice (some ⟨b, off, none⟩) s.length c)) (((w.alloc o).drewN nq).setCell ⟨b, off + (s.length - 1) * 2 + 1, none⟩ (.int .u64 e)) := by
  subst ho
  have h1 : ((w.alloc o).drewN nq).ownsRow B 67 2 (.slice (some ⟨b, 0, none⟩) s.length c) s.length (flat s) := h.alloc o
  have h2 := (h1.stored ((s.length - 1) * 2 + 1) (.int .u64 e)).1
  rw [flat_set hp] at h2
  refine ⟨_, rfl, ?_, ?_⟩
  · rw [he, Nat.zero_add]
    have e1 : (s.dropLast ++ [(pf s (s.length - 1), e)]).length = s.length := by simp; omega
    rw [e1]
    exact h2
  · exact (below_drewN ((Below.refl _ _).alloc hB o) nq).setCell (h.lt b rfl).1 _

set_option maxHeartbeats 1000000 in
theorem plus_any (B : Nat) (v : Value) (s : List (Int × Int)) (f e : Int) (w : World) (h : w.ownsRow B 67 2 v s.length (flat s)) (hB : B ≤ w.heap.size) (hn : s.length ≤ 4194304) :
    Calls Trym.prog 37 #[v, .agg #[.int .u64 f, .int .u64 e]] w (RetR w B (plusF s f e)) := by
  obtain ⟨a, c, rfl, hr⟩ := prow_of_owns h
  obtain ⟨i0, hi, hz0, hz1, hz2⟩ := info_parts Trym.info67
  have HO := Hid.in h
  clear h
  by_cases hp : 0 < s.length
  · rcases hr with h | ⟨b, off, rfl, hc⟩
    · omega
    obtain ⟨y0, hy0⟩ : ∃ x, x = pf s (s.length - 1) := ⟨_, rfl⟩
    obtain ⟨y, hy⟩ : ∃ x, x = pe s (s.length - 1) := ⟨_, rfl⟩
    have hlast : w.cell? ⟨b, off + (s.length - 1) * 2 + 1, none⟩ = some (.int .u64 y) := by rw [hy]; exact (hc (s.length - 1) (by omega)).2
    have hbl : b < w.heap.size := by have := cell_lt hlast; simpa using this
    have hi1 : (0 : Int) ≤ (s.length : Int) - 1 := by omega
    have hi2 : (s.length : Int) - 1 < (s.length : Int) := by omega
    have Y := Hid.in hy
    have Y0 := Hid.in hy0
    have hoff : off = 0 := by
      rcases HO.out.2 with ⟨e1, _⟩ | ⟨g, cap, cur, e1, _⟩
      · cases e1
      · cases e1; rfl
    have HF := Hid.in hoff
    clear hc hy hy0 hoff
    by_cases hyf : y = f
    · have hyb : (y == f) = true := beq_iff_eq.2 hyf
      have HE : Hid (plusF s f e = s.dropLast ++ [(pf s (s.length - 1), e)]) := plus_yes hp (by rw [← Y.out]; exact hyf)
      have hfr : w.frozen? ⟨b, off + (s.length - 1) * 2 + 1, none⟩ = false := by
        rcases HO.out.2 with ⟨e1, _⟩ | ⟨g, cap, cur, e1, _⟩
        · cases e1
        · cases e1; exact HO.out.frozenAt _
      clear hyf
      go_enter Trym.func37, Trym.ntmps37
      go_wp2
      go_quiet (fail)
      go_wp2
      go_ret
      exact plus_join HO.out HE.out hp HF.out hB nq
    · have hyb : (y == f) = false := beq_eq_false_iff_ne.2 hyf
      have HE : Hid (plusF s f e = s ++ [(f, e)]) := plus_no (fun h => hyf (by rw [Y.out]; exact h.2))
      have HYF := Hid.in hyf
      clear hyf
      go_enter Trym.func37, Trym.ntmps37
      go_wp2
      go_quiet (fail)
      go_wp2_with (at_builtin; refine wpList_append_own _ rfl _ _ 57 rfl B 67 i0 (.agg #[.int .u64 0, .int .u64 0]) 2 16 Trym.underlying57 hi hz0 hz1 hz2 rfl (by decide) _ _ _ rfl (plus_own HO.out nq) ⟨w.heap.size + 1, 0, none⟩ 1 1 [.int .u64 f, .int .u64 e] rfl rfl (plus_cells w f e nq) (pair_oneCell f e) (by unfold maxLen; omega) (by omega) (by simp; omega) ?_; intro v5 w5 hown5 hgrow5 hx5; clear hx5; have HR5 := Hid.in hown5; have HB5 := Hid.in (below_grown2 (plus_below w hB nq) hgrow5 (plus_own HO.out nq) hB); clear hown5 hgrow5)
      go_ret
      exact ⟨_, rfl, by rw [HE.out, List.length_append, flat_app, flat_one]; exact HR5.out, HB5.out⟩
  · have hn0 : s.length = 0 := by omega
    have hs0 : s = [] := List.length_eq_zero_iff.1 hn0
    subst hs0
    clear hr hp hn0 hn
    have HE : Hid (plusF [] f e = [(f, e)]) := rfl
    go_enter Trym.func37, Trym.ntmps37
    go_wp2
    go_quiet (fail)
    go_wp2_with (at_builtin; refine wpList_append_own _ rfl _ _ 57 rfl B 67 i0 (.agg #[.int .u64 0, .int .u64 0]) 2 16 Trym.underlying57 hi hz0 hz1 hz2 rfl (by decide) _ _ _ rfl (plus_own HO.out nq) ⟨w.heap.size + 1, 0, none⟩ 1 1 [.int .u64 f, .int .u64 e] rfl rfl (plus_cells w f e nq) (pair_oneCell f e) (by decide) (by decide) (by simp; omega) ?_; intro v5 w5 hown5 hgrow5 hx5; clear hx5; have HR5 := Hid.in hown5; have HB5 := Hid.in (below_grown2 (plus_below w hB nq) hgrow5 (plus_own HO.out nq) hB); clear hown5 hgrow5)
    go_ret
    exact ⟨_, rfl, by rw [HE.out]; exact HR5.out, HB5.out⟩

theorem cut_plus {low : Int} {ps : List (Int × Int)} {k : Nat} (h : IsR ps) (hk : k < ps.length) (hc : max (pf ps k) low < pe ps k) : plusF (cut low (ps.take k)) (max (pf ps k) low) (pe ps k) = cut low (ps.take (k + 1)) := by
  rw [cut_take_yes low ps hk hc]
  refine plus_no (fun hp => ?_)
  obtain ⟨_, c2⟩ := cut_spec low ps h k (by omega)
  obtain ⟨j, hj, hjl, _, e2, _⟩ := c2 _ (show (cut low (ps.take k)).length - 1 < _ from by omega)
  have := isR_lt h hj hk
  rw [e2] at hp
  omega
theorem cut_len (low : Int) (ps : List (Int × Int)) : (cut low ps).length ≤ ps.length := by
  induction ps with
  | nil => exact Nat.le_refl _
  | cons p r ih =>
    unfold cut
    split <;> simp <;> omega

theorem if_max (x y : Int) : (if x < y then y else x) = max x y := by split <;> omega
theorem unended_own {w : World} {B : Nat} {v : Value} {n : Nat} {xs : List Value} (h : w.ownsRow B 67 2 v n xs) {o : Obj} : ((w.alloc o).drew).ownsRow B 67 2 v n xs := h.alloc o
theorem unended_below {B : Nat} {w wr : World} (h : Below B w wr) (hB : B ≤ wr.heap.size) {o : Obj} : Below B w (wr.alloc o).drew := (h.alloc hB o).drew

set_option maxHeartbeats 1000000 in
theorem unended_any (pb : Nat) (low high ended : Int) (a : Option Addr) (n c : Nat) (ps : List (Int × Int)) (w : World) (hb : w.heap[pb]? = some (.cells #[.int .u64 low, .int .u64 high, .int .u64 ended, .slice a n c] 61 (0, 0)))
    (h : PRow w a n ps) (hl : ps.length = n) (hr : IsR ps) (hn : n ≤ 4194304) :
    Calls Trym.prog 34 #[.pointer (some ⟨pb, 0, none⟩)] w (RetR w w.heap.size (finF (cut low ps) (max low ended) high)) := by
  have HL := Hid.in hl
  have HR := Hid.in hr
  have c0 : w.cell? ⟨pb, 0, none⟩ = some (.int .u64 low) := by simp [World.cell?, hb]
  have c1 : w.cell? ⟨pb, 1, none⟩ = some (.int .u64 high) := by simp [World.cell?, hb]
  have c2 : w.cell? ⟨pb, 2, none⟩ = some (.int .u64 ended) := by simp [World.cell?, hb]
  have c3 : w.cell? ⟨pb, 3, none⟩ = some (.slice a n c) := by simp [World.cell?, hb]
  have C0 := Hid.in c0
  have C1 := Hid.in c1
  have C2 := Hid.in c2
  have hpb : pb < w.heap.size := lt_of_block hb
  clear hl hr hb c0 c1 c2
  rcases h with hc | ⟨b, off, rfl, hc⟩
  all_goals
    have HC := Hid.in hc
    clear hc
    go_enter Trym.func34, Trym.ntmps34
    go_wp2
    go_loopw [3, 13] (fun v i wr => ∃ k : Nat, k ≤ n ∧ i = .int .i64 k ∧ wr.ownsRow w.heap.size 67 2 v (cut low (ps.take k)).length (flat (cut low (ps.take k))) ∧ Below w.heap.size w wr) (fun _ i _ => n - (intOf i).toNat)
    case atStart => exact ⟨0, Nat.zero_le _, rfl, World.ownsRow_nil _ _ _ _, Below.refl _ _⟩
    case round =>
      obtain ⟨k, hk, rfl, hown, hnx⟩ := hrel
      obtain ⟨e0, f0, rfl, _⟩ := prow_of_owns hown
      have HO := Hid.in hown
      have HN := Hid.in hnx
      clear hown hnx
      by_cases hlt : k < n
      · first | (exfalso; have := HC.out; omega; done) | skip
        all_goals
          obtain ⟨x0, hx0⟩ : ∃ x, x = pf ps k := ⟨_, rfl⟩
          obtain ⟨x1, hx1⟩ : ∃ x, x = pe ps k := ⟨_, rfl⟩
          have h0 : wr.cell? ⟨b, off + k * 2, none⟩ = some (.int .u64 x0) := by rw [hx0]; exact cell_later HN.out (HC.out k hlt).1
          have h1 : wr.cell? ⟨b, off + k * 2 + 1, none⟩ = some (.int .u64 x1) := by rw [hx1]; exact cell_later HN.out (HC.out k hlt).2
          have d0 : wr.cell? ⟨pb, 0, none⟩ = some (.int .u64 low) := cell_later HN.out C0.out
          have X0 := Hid.in hx0
          have X1 := Hid.in hx1
          have hsz : w.heap.size ≤ wr.heap.size := HN.out.size
          have hpw : pb < wr.heap.size := by omega
          clear hx0 hx1 c3
          go_wp2_with fail
          go_region
          rw [if_max x0 low]
          obtain ⟨mx, hmx⟩ : ∃ mx, mx = max x0 low := ⟨_, rfl⟩
          rw [← hmx]
          have MX := Hid.in hmx
          clear hmx
          by_cases hlt2 : mx < x1
          · go_wp2_with fail
            refine (plus_any w.heap.size _ (cut low (ps.take k)) mx x1 _ (unended_own HO.out) (by simp; omega) (by have := cut_len low (ps.take k); simp at this; omega)).mono ?_
            rintro en w5 ⟨v5, rfl, hown5, hb5⟩
            have HR5 : Hid (w5.ownsRow w.heap.size 67 2 v5 (cut low (ps.take (k + 1))).length (flat (cut low (ps.take (k + 1))))) := by
              have e1 := cut_plus (low := low) HR.out (show k < ps.length from by have := HL.out; omega) (by rw [← X0.out, ← X1.out, ← MX.out]; exact hlt2)
              rw [← X0.out, ← X1.out, ← MX.out] at e1
              rw [← e1]; exact hown5
            have HB5 : Hid (Below w.heap.size w w5) := by exact (unended_below HN.out hsz).trans hb5
            clear hown5 hb5
            go_wp2
            go_roundw
            case rel => exact ⟨k + 1, by omega, by go_num, HR5.out, HB5.out⟩
            case measure => simp [intOf]; omega
          · have HR5 : Hid (cut low (ps.take (k + 1)) = cut low (ps.take k)) := cut_take_no low ps (by have := HL.out; omega) (by rw [← X0.out, ← X1.out, ← MX.out]; exact hlt2)
            go_wp2
            go_roundw
            case rel => exact ⟨k + 1, by omega, by go_num, by rw [HR5.out]; exact unended_own HO.out, unended_below HN.out hsz⟩
            case measure => simp [intOf]; omega
      · have hkn : k = n := by omega
        have hct : ps.take k = ps := List.take_of_length_le (by have := HL.out; omega)
        have HO2 : Hid (wr.ownsRow w.heap.size 67 2 (.slice e0 (cut low (ps.take k)).length f0) (cut low ps).length (flat (cut low ps))) := by have := HO.out; rw [hct] at this ⊢; exact this
        have HCT : Hid ((cut low (ps.take k)).length = (cut low ps).length) := by rw [hct]; exact rfl
        have d0 : wr.cell? ⟨pb, 0, none⟩ = some (.int .u64 low) := cell_later HN.out C0.out
        have d1 : wr.cell? ⟨pb, 1, none⟩ = some (.int .u64 high) := cell_later HN.out C1.out
        have d2 : wr.cell? ⟨pb, 2, none⟩ = some (.int .u64 ended) := cell_later HN.out C2.out
        have hsz : w.heap.size ≤ wr.heap.size := HN.out.size
        clear c3 hkn hct
        go_wp2_with fail
        go_region
        rw [if_max low ended]
        obtain ⟨mx, hmx⟩ : ∃ mx, mx = max low ended := ⟨_, rfl⟩
        rw [← hmx]
        have MX := Hid.in hmx
        clear hmx
        by_cases hlt2 : mx < high
        · go_wp2_with fail
          refine (plus_any w.heap.size _ (cut low ps) mx high _ HO2.out.drew (by exact hsz) (by have := cut_len low ps; have := HL.out; omega)).mono ?_
          rintro en w5 ⟨v5, rfl, hown5, hb5⟩
          have HR5 := Hid.in hown5
          have HB5 : Hid (Below w.heap.size w w5) := HN.out.drew.trans hb5
          clear hown5 hb5
          go_wp2
          go_ret
          exact ⟨_, rfl, by unfold finF; rw [← MX.out, if_pos hlt2]; exact HR5.out, HB5.out⟩
        · go_wp2
          go_ret
          exact ⟨_, rfl, by unfold finF; rw [← MX.out, if_neg (by omega)]; exact HO2.out, HN.out.drew⟩

set_option maxHeartbeats 1000000 in
theorem zzUnended_any (low high ended : Int) (a : Option Addr) (n c : Nat) (ps : List (Int × Int)) (w : World) (h : PRow w a n ps) (hl : ps.length = n) (hr : IsR ps) (hn : n ≤ 4000000) :
    Calls Trym.prog 17 #[.int .u64 low, .int .u64 high, .int .u64 ended, .slice a n c] w fun e w' => ∃ m, m = (finF (cut low ps) (max low ended) high).length ∧ RetP2 w 32 m (finF (cut low ps) (max low ended) high) e w' := by
  have HH := Hid.in (And.intro h (And.intro hl hr))
  clear h hl hr
  go_enter Trym.func17, Trym.ntmps17
  go_wp2_with fail
  refine (runsOf_any a n c ps w HH.out.1 HH.out.2.1 (by omega)).mono ?_
  rintro e w1 ⟨v, rfl, hown, hb1⟩
  obtain ⟨b0, d0, rfl, hr1⟩ := prow_of_owns hown
  have HR1 := Hid.in hr1
  have HB1 := Hid.in hb1
  clear hown hr1 hb1
  go_wp2_with fail
  refine (unended_any w1.heap.size low high ended b0 n d0 ps _ (heap_alloc_new w1 _) (HR1.out.below (Nat.le_refl _) ((Below.refl _ _).alloc (Nat.le_refl _) _)) HH.out.2.1 HH.out.2.2 (by omega)).mono ?_
  rintro e w2 ⟨v, rfl, hown, hb2⟩
  have hfl : (finF (cut low ps) (max low ended) high).length ≤ n + 1 := by
    have h1 := cut_len low ps
    have h2 := HH.out.2.1
    unfold finF plusF
    split
    · split <;> simp <;> omega
    · omega
  obtain ⟨out, hout⟩ : ∃ out, out = finF (cut low ps) (max low ended) high := ⟨_, rfl⟩
  rw [← hout] at hown hfl
  have HOUT := Hid.in hout
  clear hout
  obtain ⟨b1, d1, rfl, hr2⟩ := prow_of_owns hown
  have HR2 := Hid.in hr2
  have HB2 : Hid (Below w.heap.size w w2) := by
    have h1 := HB1.out
    exact (h1.trans (((Below.refl _ _).alloc (Nat.le_refl _) _).mono h1.size)).trans (hb2.mono (by simp; have := h1.size; omega))
  clear hown hr2 hb2
  go_wp2_with fail
  refine (pairsOf_any b1 out.length d1 out w2 HR2.out rfl (by omega)).mono ?_
  rintro e w3 ⟨v, rfl, hown, hb3⟩
  obtain ⟨b2, d2, rfl, hr3⟩ := prow_of_owns hown
  have HO3 := Hid.in hown
  have HB3 : Hid (Below w.heap.size w w3) := below_step HB2.out hb3
  have HS : Hid (w.heap.size ≤ w2.heap.size) := HB2.out.size
  clear hown hr3 hb3
  go_wp2
  go_ret
  exact ⟨_, rfl, _, rfl, by rw [← HOUT.out]; exact owns_base HO3.out HS.out, HB3.out⟩

def Bnd1 (n : Nat) (x : Bool) : Prop := x = true → n ≤ 1048576
theorem bnd1_no {n : Nat} : Bnd1 n false := fun h => by cases h
theorem bytes16_any (low high ended : Int) (a : Option Addr) (n c : Nat) (w : World) (m : n ≤ maxLen) : Calls Trym.prog 16 #[.int .u64 low, .int .u64 high, .int .u64 ended, .slice a n c] w (RetB w (Bnd1 n)) := by
  unfold maxLen at m
  go_enter Trym.func16, Trym.ntmps16
  go_wp2
  all_goals try (go_ret; exact retB false bnd1_no; done)
  go_ret
  exact retB true (fun _ => by omega)
end Go.Proofs.Qxb6603923aMods
