/-
  without; ZZWithout.
-/
import Derived.Test.Qxb6603923aModsRuns4
import Derived.Maps.AppendAt
namespace Go.Proofs.Qxb6603923aMods
open Go.RowKit

/-- Within a run: the slice left owns the runs L; the run's own variable lies at block rb. -/
structure Lf (w0 ws : World) (rb : Nat) (v : Value) (L : List (Int × Int)) (x0 x1 : Int) : Prop where
  own : ws.ownsRow w0.heap.size 67 2 v L.length (flat L)
  ne : v.ownBlock ≠ some rb
  rblock : ws.heap[rb]? = some (.cells #[.int .u64 x0, .int .u64 x1] 67 (0, 0))
  below : Below w0.heap.size w0 ws
  rlt : w0.heap.size ≤ rb

section
variable {w0 ws w5 : World} {rb : Nat} {v v5 : Value} {L : List (Int × Int)} {x0 x1 f e : Int}

theorem Lf.drewN (h : Lf w0 ws rb v L x0 x1) (nq : Nat) : Lf w0 (ws.drewN nq) rb v L x0 x1 := ⟨h.own, h.ne, h.rblock, below_drewN h.below nq, h.rlt⟩
theorem Lf.cell1 (h : Lf w0 ws rb v L x0 x1) : ws.cell? ⟨rb, 1, none⟩ = some (.int .u64 x1) := by simp [World.cell?, h.rblock]
theorem Lf.app (h : Lf w0 ws rb v L x0 x1) {o : Obj} (hg : (ws.alloc o).grownBy w5 v.ownBlock) (ho : w5.ownsRow w0.heap.size 67 2 v5 (L.length + 1) (flat L ++ [.int .u64 f, .int .u64 e])) (hl : v5.ownBlock = v.ownBlock ∨ v5.ownBlock = some (ws.alloc o).heap.size) :
    Lf w0 w5 rb v5 (L ++ [(f, e)]) x0 x1 := by
  have hrb := lt_of_block h.rblock
  have hsz := h.below.size
  refine ⟨by rw [List.length_append, flat_app, flat_one]; exact ho, ?_, ?_, ?_, h.rlt⟩
  · rcases hl with h1 | h1
    · rw [h1]; exact h.ne
    · rw [h1]; simp; omega
  · rw [hg.block rb (by simp; omega) h.ne.symm]
    exact (Below.heap_alloc ws o rb hrb).trans h.rblock
  · exact below_grown2 (h.below.alloc hsz o) hg (h.own.alloc o) (Nat.le_refl _)
theorem Lf.new {w1 : World} (h : w1.ownsRow w0.heap.size 67 2 v L.length (flat L)) (hb : Below w0.heap.size w0 w1) : Lf w0 (w1.alloc (.cells #[.int .u64 x0, .int .u64 x1] 67)) w1.heap.size v L x0 x1 := by
  refine ⟨h.alloc _, fun e => ?_, heap_alloc_new w1 _, hb.alloc hb.size _, hb.size⟩
  have := (h.lt _ e).2
  omega
end

theorem owns2_slice {w : World} {B : Nat} {e : TypeId} {v : Value} {n : Nat} {xs : List Value} (h : w.ownsRow B e 2 v n xs) : ∃ a c, v = .slice a n c := by
  rcases h.2 with ⟨rfl, rfl⟩ | ⟨g, cap, cur, rfl, _⟩
  · exact ⟨none, 0, rfl⟩
  · exact ⟨_, cap, rfl⟩
theorem lf_base {w0 ws : World} {rb : Nat} {v : Value} {L : List (Int × Int)} {x0 x1 : Int} (h : Lf w0 ws rb v L x0 x1) (nq : Nat) {o : Obj} : w0.heap.size ≤ ((ws.drewN nq).alloc o).heap.size := by
  have h1 := h.below.size
  have h2 : (ws.drewN nq).heap.size = ws.heap.size := rfl
  simp only [World.size_alloc, h2]
  omega

def RetOut (w : World) (zs : List Int) (ps : List (Int × Int)) (e : Ending) (w' : World) : Prop := ∃ out, Outer zs ps ps.length out ∧ RetR w w.heap.size out e w'

set_option maxRecDepth 100000 in
set_option maxHeartbeats 4000000 in
theorem without_any (a a' : Option Addr) (n c n' c' : Nat) (ps : List (Int × Int)) (zs : List Int) (w : World) (h : PRow w a n ps) (hl : ps.length = n) (hr : IsR ps) (hb : ∀ j, j < n → pe ps j ≤ 18446744073709551615)
    (h' : Row w a' n' (intV .u64 zs)) (hl' : zs.length = n') (hr' : Asc zs) (hz : ∀ j, j < n' → 0 ≤ zz zs j) (hn : n ≤ 1048576) (hn' : n' ≤ 1048576) :
    Calls Trym.prog 33 #[.slice a n c, .slice a' n' c'] w (RetOut w zs ps) := by
  have HH := Hid.in (And.intro hl (And.intro hr (And.intro hb (And.intro hl' (And.intro hr' hz)))))
  have HR' := Hid.in h'
  clear hl hr hb hl' hr' hz
  obtain ⟨i0, hi, hz0, hz1, hz2⟩ := info_parts Trym.info67
  rcases h with hc | ⟨b, off, rfl, hc⟩ <;> rcases h' with hc' | ⟨b', off', rfl, hc'⟩
  all_goals
    have HC := Hid.in hc
    have HC' := Hid.in hc'
    clear hc hc'
    go_enter Trym.func33, Trym.ntmps33
    go_wp2
    go_loopw [5, 13] (fun v i wr => ∃ k : Nat, ∃ L, k ≤ n ∧ i = .int .i64 k ∧ Hid (Outer zs ps k L) ∧ wr.ownsRow w.heap.size 67 2 v L.length (flat L) ∧ Below w.heap.size w wr) (fun _ i _ => n - (intOf i).toNat)
    case atStart => exact ⟨0, [], Nat.zero_le _, rfl, outer_start zs ps, World.ownsRow_nil _ _ _ _, Below.refl _ _⟩
    case round =>
      obtain ⟨k, L, hk, rfl, HOU, hown, hnx⟩ := hrel
      obtain ⟨e0, f0, rfl, _⟩ := prow_of_owns hown
      have HO := Hid.in hown
      have HN := Hid.in hnx
      clear hown hnx
      by_cases hlt : k < n
      · first | (exfalso; have := HC.out; omega; done) | skip
        all_goals
          obtain ⟨x0, hx0⟩ : ∃ x, x = pf ps k := ⟨_, rfl⟩
          obtain ⟨x1, hx1⟩ : ∃ x, x = pe ps k := ⟨_, rfl⟩
          have h0 : wr.cell? ⟨b, off + k * 2, none⟩ = some (.int .u64 x0) := by rw [hx0]; exact cell_later HN.out (HC.out k hlt).1
          have h1 : wr.cell? ⟨b, off + k * 2 + 1, none⟩ = some (.int .u64 x1) := by rw [hx1]; exact cell_later HN.out (HC.out k hlt).2
          have hxb : x1 ≤ 18446744073709551615 := by rw [hx1]; exact HH.out.2.2.1 k hlt
          have X0 := Hid.in hx0
          have X1 := Hid.in hx1
          have HLF : Hid (Lf w (wr.alloc (.cells #[.int .u64 x0, .int .u64 x1] 67)) wr.heap.size (.slice e0 L.length f0) L x0 x1) := Lf.new HO.out HN.out
          clear hx0 hx1
          go_wp2_with fail
          refine (binarySearch_any _ n' c' zs x0 _ (HR'.out.below (Nat.le_refl _) HLF.out.below) HH.out.2.2.2.1 HH.out.2.2.2.2.1 (by omega)).mono ?_
          rintro e w5 ⟨⟨lo, fd, rfl, hlb⟩, hw⟩
          obtain rfl : _ = w5 := hw.symm
          have HI : Hid (Inner zs ps k lo x0 L) := by
            have := inner_start HH.out.2.1 (by have := HH.out.1; omega) HOU.out (by rw [← X0.out]; exact hlb)
            rw [← X0.out] at this; exact this
          clear hlb
          obtain ⟨wo, rfl⟩ : ∃ wo : World, wo = wr := ⟨_, rfl⟩
          go_wp2
          go_loopw [5, 8, 9] (fun v x i ws => ∃ j : Nat, ∃ x' : Int, ∃ L', j ≤ n' ∧ i = .int .i64 j ∧ x = .int .u64 x' ∧ Hid (Inner zs ps k j x' L') ∧ Hid (Lf w ws wo.heap.size v L' x0 x1)) (fun _ _ i _ => n' - (intOf i).toNat)
          case atStart => exact ⟨lo, x0, L, by have := HI.out.idx; have := HH.out.2.2.2.1; omega, rfl, rfl, HI.out, HLF.out⟩
          case round =>
            obtain ⟨j, x, L', hj, rfl, rfl, HI2, HL2⟩ := hrel
            obtain ⟨e2, f2, rfl, _⟩ := prow_of_owns HL2.out.own
            have hll : L'.length ≤ 3000000 := by have := HI2.out.len; omega
            have hc1 : wr.cell? ⟨wo.heap.size, 1, none⟩ = some (.int .u64 x1) := HL2.out.cell1
            have hwo : wo.heap.size < wr.heap.size := lt_of_block HL2.out.rblock
            have hcase : (∃ z, j < n' ∧ z = zz zs j ∧ 0 ≤ z ∧ z < x1) ∨ (∃ z, j < n' ∧ z = zz zs j ∧ ¬ z < x1) ∨ ¬ j < n' := by
              by_cases hjn : j < n'
              · by_cases hzx : zz zs j < x1
                · exact .inl ⟨_, hjn, rfl, HH.out.2.2.2.2.2 j hjn, hzx⟩
                · exact .inr (.inl ⟨_, hjn, rfl, hzx⟩)
              · exact .inr (.inr hjn)
            rcases hcase with ⟨z, hjn, hz, hz0', hzx⟩ | ⟨z, hjn, hz, hzx⟩ | hjn
            · first | (exfalso; have := HC'.out; omega; done) | skip
              all_goals
                have hcz : wr.cell? ⟨b', off' + j, none⟩ = some (.int .u64 z) := by rw [hz]; exact cell_later HL2.out.below (HC'.out j hjn)
                have hji : (j : Int) < (n' : Int) := by omega
                have Z := Hid.in hz
                clear hz
                by_cases hxz : x < z
                · have RR : Hid (Inner zs ps k (j + 1) (z + 1) (L' ++ [(x, z)])) := by
                    have := inner_above HH.out.2.2.2.2.1 (by have := HH.out.1; omega) HI2.out (by have := HH.out.2.2.2.1; omega) (by rw [← Z.out, ← X1.out]; exact hzx) (by rw [← Z.out]; exact hxz)
                    rw [← Z.out] at this; exact this
                  go_wp2
                  go_quiet (fail)
                  go_wp2_with (at_builtin; refine wpList_append_own_at _ rfl _ _ 57 rfl w.heap.size 67 i0 (.agg #[.int .u64 0, .int .u64 0]) 2 16 Trym.underlying57 hi hz0 hz1 hz2 rfl (by decide) _ _ _ rfl ((HL2.out.drewN nq).own.alloc _) ⟨wr.heap.size, 0, none⟩ 1 1 [.int .u64 x, .int .u64 z] rfl rfl (cell_pair_new' (wr.drewN nq) _ _ _ _ rfl) (pair_oneCell x z) (by unfold maxLen; omega) (by omega) (lf_base HL2.out nq) ?_; intro v5 w5 hown5 hgrow5 hx5 hloc5; clear hx5; have HL5 := Hid.in ((HL2.out.drewN nq).app hgrow5 hown5 hloc5); obtain ⟨g5, cap5, hv5⟩ := owns2_slice hown5; clear hown5 hgrow5 hloc5; have hcz5 : w5.cell? ⟨b', off' + j, none⟩ = some (.int .u64 z) := (by rw [Z.out]; exact cell_later HL5.out.below (HC'.out j hjn)); rw [hv5] at HL5 ⊢; clear hv5)
                  go_roundw
                  case rel => exact ⟨j + 1, _, _, by omega, by go_num, rfl, RR.out, HL5.out⟩
                  case measure => simp [intOf]; omega
                · have RR : Hid (Inner zs ps k (j + 1) (z + 1) L') := by
                    have := inner_at HH.out.2.2.2.2.1 (by have := HH.out.1; omega) HI2.out (by have := HH.out.2.2.2.1; omega) (by rw [← Z.out, ← X1.out]; exact hzx) (by rw [← Z.out]; exact hxz)
                    rw [← Z.out] at this; exact this
                  go_wp2
                  go_quiet (fail)
                  go_wp2
                  go_roundw
                  case rel => exact ⟨j + 1, _, _, by omega, by go_num, rfl, RR.out, HL2.out.drewN _⟩
                  case measure => simp [intOf]; omega
            · first | (exfalso; have := HC'.out; omega; done) | skip
              all_goals
                have hcz : wr.cell? ⟨b', off' + j, none⟩ = some (.int .u64 z) := by rw [hz]; exact cell_later HL2.out.below (HC'.out j hjn)
                have hji : (j : Int) < (n' : Int) := by omega
                have HE : Hid (j < zs.length → pe ps k ≤ zz zs j) := fun _ => by rw [← hz, ← X1.out]; omega
                clear hz
                by_cases hxx : x < x1
                · have RR : Hid (Outer zs ps (k + 1) (L' ++ [(x, x1)])) := by
                    have := inner_end_yes HH.out.2.2.2.2.1 (by have := HH.out.1; omega) HI2.out HE.out (by rw [← X1.out]; exact hxx)
                    rw [← X1.out] at this; exact this
                  go_wp2
                  go_quiet (fail)
                  go_wp2_with (at_builtin; refine wpList_append_own_at _ rfl _ _ 57 rfl w.heap.size 67 i0 (.agg #[.int .u64 0, .int .u64 0]) 2 16 Trym.underlying57 hi hz0 hz1 hz2 rfl (by decide) _ _ _ rfl ((HL2.out.drewN nq).own.alloc _) ⟨wr.heap.size, 0, none⟩ 1 1 [.int .u64 x, .int .u64 x1] rfl rfl (cell_pair_new' (wr.drewN nq) _ _ _ _ rfl) (pair_oneCell x x1) (by unfold maxLen; omega) (by omega) (lf_base HL2.out nq) ?_; intro v5 w5 hown5 hgrow5 hx5 hloc5; clear hx5; have HL5 := Hid.in ((HL2.out.drewN nq).app hgrow5 hown5 hloc5); obtain ⟨g5, cap5, hv5⟩ := owns2_slice hown5; clear hown5 hgrow5 hloc5; rw [hv5] at HL5 ⊢; clear hv5)
                  go_roundw
                  case rel => exact ⟨k + 1, _, by omega, by go_num, RR.out, by have := HL5.out.own; rw [List.length_append] at this ⊢; exact this, HL5.out.below⟩
                  case measure => simp [intOf]; omega
                · have RR : Hid (Outer zs ps (k + 1) L') := by
                    exact inner_end_no HH.out.2.2.2.2.1 (by have := HH.out.1; omega) HI2.out HE.out (by rw [← X1.out]; exact hxx)
                  go_wp2
                  go_quiet (fail)
                  go_wp2
                  go_roundw
                  case rel => exact ⟨k + 1, _, by omega, by go_num, RR.out, (HL2.out.drewN _).own, (HL2.out.drewN _).below⟩
                  case measure => simp [intOf]; omega
            · have hjd : decide ((j : Int) < (n' : Int)) = false := decide_eq_false (by omega)
              have HE : Hid (j < zs.length → pe ps k ≤ zz zs j) := fun h => by have := HH.out.2.2.2.1; omega
              by_cases hxx : x < x1
              · have RR : Hid (Outer zs ps (k + 1) (L' ++ [(x, x1)])) := by
                  have := inner_end_yes HH.out.2.2.2.2.1 (by have := HH.out.1; omega) HI2.out HE.out (by rw [← X1.out]; exact hxx)
                  rw [← X1.out] at this; exact this
                go_wp2
                go_quiet (fail)
                go_wp2_with (at_builtin; refine wpList_append_own_at _ rfl _ _ 57 rfl w.heap.size 67 i0 (.agg #[.int .u64 0, .int .u64 0]) 2 16 Trym.underlying57 hi hz0 hz1 hz2 rfl (by decide) _ _ _ rfl ((HL2.out.drewN nq).own.alloc _) ⟨wr.heap.size, 0, none⟩ 1 1 [.int .u64 x, .int .u64 x1] rfl rfl (cell_pair_new' (wr.drewN nq) _ _ _ _ rfl) (pair_oneCell x x1) (by unfold maxLen; omega) (by omega) (lf_base HL2.out nq) ?_; intro v5 w5 hown5 hgrow5 hx5 hloc5; clear hx5; have HL5 := Hid.in ((HL2.out.drewN nq).app hgrow5 hown5 hloc5); obtain ⟨g5, cap5, hv5⟩ := owns2_slice hown5; clear hown5 hgrow5 hloc5; rw [hv5] at HL5 ⊢; clear hv5)
                go_roundw
                case rel => exact ⟨k + 1, _, by omega, by go_num, RR.out, by have := HL5.out.own; rw [List.length_append] at this ⊢; exact this, HL5.out.below⟩
                case measure => simp [intOf]; omega
              · have RR : Hid (Outer zs ps (k + 1) L') := by
                  exact inner_end_no HH.out.2.2.2.2.1 (by have := HH.out.1; omega) HI2.out HE.out (by rw [← X1.out]; exact hxx)
                go_wp2
                go_quiet (fail)
                go_wp2
                go_roundw
                case rel => exact ⟨k + 1, _, by omega, by go_num, RR.out, (HL2.out.drewN _).own, (HL2.out.drewN _).below⟩
                case measure => simp [intOf]; omega
      · have hkn : k = n := by omega
        have HKN := Hid.in hkn
        clear hkn
        go_wp2
        go_ret
        exact ⟨L, by rw [HH.out.1, ← HKN.out]; exact HOU.out, _, rfl, HO.out, HN.out⟩
end Go.Proofs.Qxb6603923aMods
