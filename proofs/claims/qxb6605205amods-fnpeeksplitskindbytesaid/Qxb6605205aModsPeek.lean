/-
  peek; the walk of FnPeekSplitsKindByte.
-/
import Derived.Test.Qxb6605205aModsBase
namespace Go.Proofs.Qxb6605205aMods
open Go.RowKit

theorem Trym.info5 : (Trym.prog.info? 5).map (fun i => (i.zero, i.size, i.bytes)) = some (some (.int .u8 0), 1, 1) := by kernel_rfl

theorem bytes16_any (a : Option Addr) (n c : Nat) (w : World) (m : n ≤ maxLen) : Calls Trym.prog 16 #[.slice a n c] w (RetB w (Bnd1 n)) := by
  unfold maxLen at m
  go_enter Trym.func16, Trym.ntmps16
  go_wp2
  all_goals try (go_ret; exact retB false bnd1_no; done)
  go_ret
  exact retB true (fun _ => by omega)

/-- peek at fewer than two bytes. -/
theorem peek_short (a : Option Addr) (n c : Nat) (w : World) (h : n < 2) : Calls Trym.prog 17 #[.slice a n c] w fun e w' => e = .returned (.tuple #[.int .i64 0, .int .u64 0]) ∧ w' = w := by
  go_enter Trym.func17, Trym.ntmps17
  go_wp2
  go_ret2
  exact ⟨rfl, rfl⟩
/-- peek at two bytes or more: the second byte d. -/
theorem peek_low (b off n c : Nat) (d : Int) (w : World) (h : 2 ≤ n) (hd0 : 0 ≤ d) (hd : d < 64) (hc : w.cell? ⟨b, off + 1, none⟩ = some (.int .u8 d)) :
    Calls Trym.prog 17 #[.slice (some ⟨b, off, none⟩) n c] w fun e w' => e = .returned (.tuple #[.int .i64 0, .int .u64 d]) ∧ w' = w := by
  go_enter Trym.func17, Trym.ntmps17
  go_wp2
  go_ret2
  exact ⟨rfl, rfl⟩
theorem peek_high (b off n c : Nat) (d : Int) (w : World) (h : 2 ≤ n) (hd : 64 ≤ d) (hd1 : d ≤ 255) (hc : w.cell? ⟨b, off + 1, none⟩ = some (.int .u8 d)) :
    Calls Trym.prog 17 #[.slice (some ⟨b, off, none⟩) n c] w fun e w' => e = .returned (.tuple #[.int .i64 1, .int .u64 (d - 64)]) ∧ w' = w := by
  go_enter Trym.func17, Trym.ntmps17
  go_wp2
  go_ret2
  exact ⟨rfl, rfl⟩

set_option maxRecDepth 100000 in
set_option maxHeartbeats 2000000 in
theorem lawPeek (a : Option Addr) (n c : Nat) (ss : List Int) (w : World) (h : Row w a n (intV .u8 ss)) (hl : ss.length = n) (hm : n ≤ maxLen) (hb : ∀ j, j < n → 0 ≤ ss.getD j 0 ∧ ss.getD j 0 ≤ 255) :
    Calls Trym.prog 6 #[.slice a n c] w (RetT w) := by
  have HH := Hid.in (And.intro h (And.intro hl hb))
  have hnilz : n ≠ 0 → a ≠ none := fun hn e => by
    rcases h with h | ⟨b, off, e', _⟩
    · omega
    · rw [e] at e'; cases e'
  have HNZ := Hid.in hnilz
  clear h hl hb hnilz
  obtain ⟨i0, hi, hz0, hz1, hz2⟩ := info_parts Trym.info5
  have hq := fun (x : Option Addr) (n c : Nat) (w : World) => run_neq_slice_nil_any (P := Trym.prog) w 31 5 x n c 0 0 Trym.underlying31
  go_enter Trym.func6, Trym.ntmps6
  go_wp2_with fail
  refine (bytes16_any a n c w hm).mono ?_
  rintro e w1 ⟨⟨x, rfl, hx⟩, hw⟩
  obtain rfl : w = w1 := hw.symm
  clear hm
  cases x
  · clear hx
    go_wp2
    go_ret
    exact ⟨rfl, Below.refl _ _⟩
  have q := hx rfl
  clear hx
  have hb2 : i0.bytes * n ≤ 281474976710656 := by rw [hz2]; omega
  cases a with
  | none =>
    obtain rfl : n = 0 := by
      by_cases h : n = 0
      · exact h
      · exact absurd rfl (HNZ.out h)
    go_wp2_with fail
    refine (peek_short none 0 c w (by omega)).mono ?_
    rintro e w1 ⟨rfl, hw⟩
    obtain rfl : w = w1 := hw.symm
    go_wp2
    go_ret
    exact ⟨rfl, Below.refl _ _⟩
  | some x =>
    go_wp2_with (at_make; refine wpList_make_full _ rfl _ _ 31 rfl w.heap.size 5 i0 (.int .u8 0) 1 Trym.underlying31 hi hz0 hz1 _ _ _ _ n rfl rfl rfl rfl hb2 (by unfold maxLen; omega) (Nat.le_refl _) ?_; intro w1 hown hgrow)
    go_loopw [4] (fun i wr => ∃ k : Nat, k ≤ n ∧ i = .int .i64 k ∧ wr.ownsRow w.heap.size 5 1 (.slice (some ⟨w.heap.size, 0, none⟩) n n) n ((ss.take k).map (Value.int .u8) ++ List.replicate (n - k) (.int .u8 0)) ∧ Below w.heap.size w wr) (fun i _ => n - (intOf i).toNat)
    case atStart => exact ⟨0, Nat.zero_le _, rfl, clone_start hown rfl, (Below.refl _ _).grown hgrow (Nat.le_refl _) (fun k hk => by cases hk)⟩
    case round =>
      obtain ⟨k, hk, rfl, hown, hnx⟩ := hrel
      by_cases hlt : k < n
      · rcases HH.out.1 with h | ⟨b, off, e, hc⟩
        · exfalso; omega
        cases e
        have hck : wr.cell? ⟨b, off + k, none⟩ = some ((Value.int .u8) (ss.getD k 0)) := (cell_later hnx (hc k hlt))
        have hok : wr.cell? ⟨w.heap.size, k, none⟩ = some (.int .u8 0) := clone_cell hown HH.out.2.1 hlt
        have hfr : wr.frozen? ⟨w.heap.size, k, none⟩ = false := hown.frozenAt k
        have R := clone_step hown HH.out.2.1 hlt (ss.getD k 0) rfl
        generalize ss.getD k 0 = s at hck R
        have RR := Hid.in R
        have HN := Hid.in hnx
        clear hown hnx hc R
        go_wp2
        go_roundw
        case rel => exact ⟨k + 1, by omega, by go_num, RR.out, HN.out.setCell (Nat.le_refl _) _⟩
        case measure => simp [intOf]; omega
      · have hkn : k = n := by omega
        have HO := Hid.in (clone_end hown HH.out.2.1 hkn)
        have HN := Hid.in hnx
        clear hown hnx hkn
        by_cases hn2 : n < 2
        · go_wp2_with fail
          refine (peek_short _ n n wr hn2).mono ?_
          rintro e w5 ⟨rfl, hw⟩
          obtain rfl : wr = w5 := hw.symm
          go_wp2
          go_ret
          exact ⟨rfl, HN.out⟩
        obtain ⟨d, hd⟩ : ∃ d, d = ss.getD 1 0 := ⟨_, rfl⟩
        have hcd : wr.cell? ⟨w.heap.size, 1, none⟩ = some (.int .u8 d) := by
          rw [HO.out.cellAt 1 (by omega), hd]
          have : 1 < ss.length := by have := HH.out.2.1; omega
          simp [List.getD, this]
        obtain ⟨d0, d1⟩ := HH.out.2.2 1 (by omega)
        rw [← hd] at d0 d1
        clear hd
        by_cases h64 : d < 64
        · go_wp2_with fail
          refine (peek_low w.heap.size 0 n n d wr (by omega) d0 h64 hcd).mono ?_
          rintro e w5 ⟨rfl, hw⟩
          obtain rfl : wr = w5 := hw.symm
          go_wp2_with fail
          refine (peek_low w.heap.size 0 2 n d wr (by omega) d0 h64 hcd).mono ?_
          rintro e w5 ⟨rfl, hw⟩
          obtain rfl : wr = w5 := hw.symm
          go_wp2
          go_ret
          exact ⟨rfl, HN.out⟩
        · go_wp2_with fail
          refine (peek_high w.heap.size 0 n n d wr (by omega) (by omega) d1 hcd).mono ?_
          rintro e w5 ⟨rfl, hw⟩
          obtain rfl : wr = w5 := hw.symm
          go_wp2_with fail
          refine (peek_high w.heap.size 0 2 n d wr (by omega) (by omega) d1 hcd).mono ?_
          rintro e w5 ⟨rfl, hw⟩
          obtain rfl : wr = w5 := hw.symm
          go_wp2
          go_ret
          exact ⟨rfl, HN.out⟩
end Go.Proofs.Qxb6605205aMods
