/-
  The script's road: zzBytes_FnPlacementScript.., zzBytesBytes, zzCloneBytesList.
-/
import Derived.Test.Qxb6603923aModsPlain1
namespace Go.Proofs.Qxb6603923aMods
open Go.RowKit Go.Maps

/-- The j-th slice of a [][]byte, told by its bytes. -/
def SubRow (w : World) (v : Value) (kz : List Int) : Prop := ∃ a' n' c', v = .slice a' n' c' ∧ Row w a' n' (intV .u8 kz) ∧ kz.length = n' ∧ n' ≤ maxLen
/-- A slice of slices of bytes that can be read. -/
def Row2 (w : World) (a : Option Addr) (n : Nat) (kzs : List (List Int)) : Prop :=
  n ≤ 0 ∨ ∃ b off, a = some ⟨b, off, none⟩ ∧ ∀ j, j < n → ∃ v, w.cell? ⟨b, off + j, none⟩ = some v ∧ SubRow w v (kzs.getD j [])

theorem SubRow.below {w w' : World} {v : Value} {kz : List Int} (h : SubRow w v kz) {B : Nat} (hB : w.heap.size ≤ B) (hb : Below B w w') : SubRow w' v kz := by
  obtain ⟨a', n', c', e, hr, h1, h2⟩ := h
  exact ⟨a', n', c', e, hr.below hB hb, h1, h2⟩
theorem Row2.below {w w' : World} {a : Option Addr} {n : Nat} {kzs : List (List Int)} (h : Row2 w a n kzs) {B : Nat} (hB : w.heap.size ≤ B) (hb : Below B w w') : Row2 w' a n kzs := by
  rcases h with h | ⟨b, off, rfl, hc⟩
  · exact .inl h
  · refine .inr ⟨b, off, rfl, fun j hj => ?_⟩
    obtain ⟨v, hv, hs⟩ := hc j hj
    exact ⟨v, (hb.cell (by have := cell_lt hv; simp at this ⊢; omega)).trans hv, hs.below hB hb⟩

def BndS (n0 n1 : Nat) (kzs : List (List Int)) (x : Bool) : Prop := x = true → n0 ≤ 1048576 ∧ n1 ≤ 1048576 ∧ ∀ j, j < n1 → (kzs.getD j []).length ≤ 1048576
theorem bndS_no {n0 n1 : Nat} {kzs : List (List Int)} : BndS n0 n1 kzs false := fun h => by cases h

theorem row2_len {w : World} {a : Option Addr} {n : Nat} {kzs : List (List Int)} (h : Row2 w a n kzs) : n ≤ 0 ∨ ∃ b off, a = some ⟨b, off, none⟩ ∧ ∀ j, j < n → ∃ a' n' c', w.cell? ⟨b, off + j, none⟩ = some (.slice a' n' c') ∧ (kzs.getD j []).length = n' ∧ n' ≤ 9223372036854775807 := by
  rcases h with h | ⟨b, off, rfl, hc⟩
  · exact .inl h
  · refine .inr ⟨b, off, rfl, fun j hj => ?_⟩
    obtain ⟨v, hv, a', n', c', rfl, _, h1, h2⟩ := hc j hj
    exact ⟨a', n', c', hv, h1, h2⟩

set_option maxHeartbeats 2000000 in
theorem bytesS_any (a0 a1 : Option Addr) (n0 c0 n1 c1 : Nat) (s0 : List ByteArray) (kzs : List (List Int)) (w : World)
    (m0 : n0 ≤ maxLen) (m1 : n1 ≤ maxLen) (r0 : Row w a0 n0 (strV s0)) (r1 : Row2 w a1 n1 kzs) :
    Calls Trym.prog 28 #[.slice a0 n0 c0, .slice a1 n1 c1] w (RetB w (BndS n0 n1 kzs)) := by
  unfold maxLen at m0 m1
  have r0' := row_str r0
  have r1' := row2_len r1
  clear r0 r1
  rcases r0' with h0 | ⟨b0, off0, rfl, h0⟩ <;> rcases r1' with h2 | ⟨b2, off2, rfl, h2⟩
  all_goals
    go_enter Trym.func28, Trym.ntmps28
    go_wp2
    all_goals try (go_ret; exact retB false bndS_no; done)
    go_loop [5, 6] (fun m i => ∃ k : Nat, ∃ z : Int, k ≤ n0 ∧ 0 ≤ z ∧ z ≤ 1048576 ∧ i = .int .i64 k ∧ m = .int .i64 z) (fun _ i => n0 - (intOf i).toNat)
    case atStart => exact ⟨0, _, Nat.zero_le _, by omega, by omega, rfl, rfl⟩
    case round =>
      obtain ⟨k, z, hk, hz0, hz1, rfl, rfl⟩ := hrel
      by_cases hlt : k < n0
      · first | (exfalso; omega; done) | skip
        all_goals
          obtain ⟨s, hck⟩ := h0 k hlt
          clear h0 h2
          go_wp2
          all_goals try (go_ret; exact retB false bndS_no; done)
          · go_round
            case rel => exact ⟨k + 1, _, by omega, by omega, by omega, by go_num, rfl⟩
            case measure => simp [intOf]; omega
      · clear h0
        go_wp2
        all_goals try (go_ret; exact retB false bndS_no; done)
        go_loop [5, 7] (fun m i => ∃ k : Nat, ∃ z : Int, k ≤ n1 ∧ 0 ≤ z ∧ z ≤ 1048576 ∧ i = .int .i64 k ∧ m = .int .i64 z ∧ Hid (∀ j, j < k → (kzs.getD j []).length ≤ 1048576)) (fun _ i => n1 - (intOf i).toNat)
        case atStart => exact ⟨0, _, Nat.zero_le _, by omega, by omega, rfl, rfl, fun j hj => by omega⟩
        case round =>
          obtain ⟨k, z, hk, hz0, hz1, rfl, rfl, hall⟩ := hrel
          by_cases hlt : k < n1
          · first | (exfalso; omega; done) | skip
            all_goals
              obtain ⟨a', n', c', hck, hln, hnm⟩ := h2 k hlt
              have HLN := Hid.in hln
              clear h2 hln
              go_wp2
              all_goals try (go_ret; exact retB false bndS_no; done)
              · go_round
                case rel => exact ⟨k + 1, _, by omega, by omega, by omega, by go_num, rfl, fun j hj => by
                  by_cases hjk : j = k
                  · subst hjk; rw [HLN.out]; omega
                  · exact hall.out j (by omega)⟩
                case measure => simp [intOf]; omega
          · clear h2
            go_wp2
            all_goals try (go_ret; exact retB false bndS_no; done)
            · go_ret
              exact retB true (fun _ => ⟨by omega, by omega, fun j hj => hall.out j (by omega)⟩)

set_option maxHeartbeats 400000 in
theorem bytesBytes_any (a : Option Addr) (n c : Nat) (kzs : List (List Int)) (w : World) (h : Row2 w a n kzs) (hn : n ≤ 1048576) :
    Calls Trym.prog 29 #[.slice a n c] w fun e w' => (∃ z : Int, e = .returned (.int .i64 z)) ∧ w' = w := by
  rcases row2_len h with h0 | ⟨b, off, rfl, hc⟩
  · clear h
    obtain rfl : n = 0 := by omega
    go_enter Trym.func29, Trym.ntmps29
    go_wp2
    refine wp_loop_rounds 1 ?_
    rw [rounds_succ]
    go_wp2
    go_ret
    exact ⟨⟨_, rfl⟩, rfl⟩
  · clear h
    go_enter Trym.func29, Trym.ntmps29
    go_wp2
    go_loop [3, 4] (fun m i => ∃ k : Nat, ∃ z : Int, k ≤ n ∧ i = .int .i64 k ∧ m = .int .i64 z) (fun _ i => n - (intOf i).toNat)
    case atStart => exact ⟨0, _, Nat.zero_le _, rfl, rfl⟩
    case round =>
      obtain ⟨k, z, hk, rfl, rfl⟩ := hrel
      by_cases hlt : k < n
      · obtain ⟨a', n', c', hck, _, hnm⟩ := hc k hlt
        clear hc
        by_cases h1 : 1048576 < z
        · go_wp2
          go_ret
          exact ⟨⟨_, rfl⟩, rfl⟩
        · by_cases h2 : (1048576 : Int) < n'
          · go_wp2
            go_ret
            exact ⟨⟨_, rfl⟩, rfl⟩
          · go_wp2
            go_round
            case rel => exact ⟨k + 1, _, by omega, by go_num, rfl⟩
            case measure => simp [intOf]; omega
      · go_wp2
        go_ret
        exact ⟨⟨_, rfl⟩, rfl⟩

theorem Trym.info40 : (Trym.prog.info? 40).map (fun i => (i.zero, i.size, i.bytes)) = some (some (.slice none 0 0), 1, 24) := by kernel_rfl

/-- A value that owns a row of bytes kz, from block B on. -/
def OwnB (w : World) (B : Nat) (v : Value) (kz : List Int) : Prop := w.ownsRow B 5 1 v kz.length (kz.map (Value.int .u8))
theorem OwnB.sub {w : World} {B : Nat} {v : Value} {kz : List Int} (h : OwnB w B v kz) (hl : kz.length ≤ maxLen) : SubRow w v kz := by
  obtain ⟨a, c, rfl, hr⟩ := row_of_owns 0 h
  exact ⟨a, _, c, rfl, hr, rfl, hl⟩

def RetRow2 (w : World) (n : Nat) (kzs : List (List Int)) (e : Ending) (w' : World) : Prop :=
  ∃ v vs, e = .returned v ∧ vs.length = n ∧ w'.ownsRow w.heap.size 40 1 v n vs ∧ (∀ j, j < n → OwnB w' w.heap.size (vs.getD j undef) (kzs.getD j [])) ∧ Below w.heap.size w w'

theorem lt_of_owns {w : World} {B : Nat} {e : TypeId} {g n c : Nat} {xs : List Value} (h : w.ownsRow B e 1 (.slice (some ⟨g, 0, none⟩) n c) n xs) : g < w.heap.size := (h.lt g rfl).2
theorem list_step {w : World} {B n g k : Nat} {e : TypeId} {z v : Value} {vs : List Value} (h : w.ownsRow B e 1 (.slice (some ⟨g, 0, none⟩) n n) n (vs ++ List.replicate (n - k) z)) (hl : vs.length = k) (hlt : k < n) :
    (w.setCell ⟨g, k, none⟩ v).ownsRow B e 1 (.slice (some ⟨g, 0, none⟩) n n) n ((vs ++ [v]) ++ List.replicate (n - (k + 1)) z) := by
  have h1 := (h.stored k v).1
  have e2 : (vs ++ List.replicate (n - k) z).set k v = (vs ++ [v]) ++ List.replicate (n - (k + 1)) z := by
    rw [List.set_append_right _ _ (by omega), hl, Nat.sub_self, show n - k = (n - (k + 1)) + 1 from by omega, List.replicate_succ, List.set_cons_zero]
    simp
  rwa [e2] at h1
theorem list_cell {w : World} {B n g k : Nat} {e : TypeId} {z : Value} {vs : List Value} (h : w.ownsRow B e 1 (.slice (some ⟨g, 0, none⟩) n n) n (vs ++ List.replicate (n - k) z)) (hl : vs.length = k) (hlt : k < n) : w.cell? ⟨g, k, none⟩ = some z := by
  rw [h.cellAt k (by omega), List.getElem?_append_right (by omega), List.getElem?_replicate, if_pos (by omega)]

theorem list_in {w w' : World} {B k : Nat} {vs : List Value} {v : Value} {kzs : List (List Int)} (hl : vs.length = k) (h : ∀ j, j < k → OwnB w B (vs.getD j undef) (kzs.getD j [])) (hw : ∀ v kz, OwnB w B v kz → OwnB w' B v kz) (hv : OwnB w' B v (kzs.getD k [])) :
    ∀ j, j < k + 1 → OwnB w' B ((vs ++ [v]).getD j undef) (kzs.getD j []) := by
  intro j hj
  by_cases hjk : j < k
  · have e1 : (vs ++ [v]).getD j undef = vs.getD j undef := by simp [List.getD, List.getElem?_append, hl, hjk]
    rw [e1]; exact hw _ _ (h j hjk)
  · obtain rfl : j = k := by omega
    have e1 : (vs ++ [v]).getD j undef = v := by simp [List.getD, hl]
    rw [e1]; exact hv

set_option maxHeartbeats 800000 in
theorem cloneBytesList_any (a : Option Addr) (n c : Nat) (kzs : List (List Int)) (w : World) (h : Row2 w a n kzs) (hl : kzs.length = n) (hn : n ≤ 4194304) (hk : ∀ j, j < n → (kzs.getD j []).length ≤ 4194304) :
    Calls Trym.prog 30 #[.slice a n c] w (RetRow2 w n kzs) := by
  have HL : Hid (kzs.length = n) := hl
  have HK := Hid.in hk
  clear hl hk
  obtain ⟨i0, hi, hz0, hz1, hz2⟩ := info_parts Trym.info40
  have hq := fun (x : Option Addr) (n c : Nat) (w : World) => Lib.run_eql_slice_nil (P := Trym.prog) w 51 40 x n c 0 0 Trym.underlying51
  have hb2 : i0.bytes * n ≤ 281474976710656 := by rw [hz2]; omega
  rcases h with h0 | ⟨b, off, rfl, hc⟩
  · obtain rfl : n = 0 := by omega
    cases a with
    | none =>
      go_enter Trym.func30, Trym.ntmps30
      go_wp2
      go_ret
      exact ⟨_, [], rfl, rfl, World.ownsRow_nil _ _ _ _, fun j hj => by omega, Below.refl _ _⟩
    | some x =>
      go_enter Trym.func30, Trym.ntmps30
      go_wp2_with (at_make; refine wpList_make_full _ rfl _ _ 51 rfl w.heap.size 40 i0 (.slice none 0 0) 1 Trym.underlying51 hi hz0 hz1 _ _ _ _ 0 rfl rfl rfl rfl hb2 (by decide) (Nat.le_refl _) ?_; intro w1 hown hgrow)
      refine wp_loop_rounds 1 ?_
      rw [rounds_succ]
      go_wp2
      go_ret
      exact ⟨_, [], rfl, rfl, by simpa [madeCells] using hown, fun j hj => by omega, (Below.refl _ _).grown hgrow (Nat.le_refl _) (fun k hk => by cases hk)⟩
  · have HC := Hid.in hc
    clear hc
    go_enter Trym.func30, Trym.ntmps30
    go_wp2_with (at_make; refine wpList_make_full _ rfl _ _ 51 rfl w.heap.size 40 i0 (.slice none 0 0) 1 Trym.underlying51 hi hz0 hz1 _ _ _ _ n rfl rfl rfl rfl hb2 (by unfold maxLen; omega) (Nat.le_refl _) ?_; intro w1 hown hgrow)
    go_loopw [4] (fun i wr => ∃ k : Nat, ∃ vs : List Value, k ≤ n ∧ i = .int .i64 k ∧ vs.length = k ∧ wr.ownsRow w.heap.size 40 1 (.slice (some ⟨w.heap.size, 0, none⟩) n n) n (vs ++ List.replicate (n - k) (.slice none 0 0)) ∧ (∀ j, j < k → OwnB wr (w.heap.size + 1) (vs.getD j undef) (kzs.getD j [])) ∧ Below w.heap.size w wr) (fun i _ => n - (intOf i).toNat)
    case atStart => exact ⟨0, [], Nat.zero_le _, rfl, rfl, by have := clone_start (ss := ([] : List Int)) (f := Value.int .u8) hown rfl; simpa using this, fun j hj => by omega, (Below.refl _ _).grown hgrow (Nat.le_refl _) (fun k hk => by cases hk)⟩
    case round =>
      obtain ⟨k, vs, hk, rfl, hvl, hown, hin, hnx⟩ := hrel
      have HO := Hid.in hown
      have HI := Hid.in hin
      have HN := Hid.in hnx
      have HV := Hid.in hvl
      clear hown hin hnx hvl
      by_cases hlt : k < n
      · obtain ⟨v, hv, a', n', c', rfl, hr, h1, h2⟩ := HC.out k hlt
        have hck : wr.cell? ⟨b, off + k, none⟩ = some (.slice a' n' c') := cell_later HN.out hv
        have hrr : Row wr a' n' (intV .u8 (kzs.getD k [])) := hr.below (Nat.le_refl _) HN.out
        have HR := Hid.in hrr
        have H1 := Hid.in h1
        have hsz : w.heap.size + 1 ≤ wr.heap.size := by
          have := lt_of_owns HO.out
          omega
        clear hv hr hrr h1 h2
        go_wp2_with fail
        refine (cloneBytes_any a' n' c' (kzs.getD k []) wr HR.out H1.out (by have := HK.out k hlt; have := H1.out; omega)).mono ?_
        rintro e w2 ⟨u, rfl, hu, hb⟩
        obtain ⟨f0, g0, rfl, _⟩ := row_of_owns 0 hu
        have hO2 := owns_below HO.out (Nat.le_refl _) hb
        have hok : w2.cell? ⟨w.heap.size, k, none⟩ = some (.slice none 0 0) := list_cell hO2 HV.out hlt
        have hfr : w2.frozen? ⟨w.heap.size, k, none⟩ = false := hO2.frozenAt k
        have hu' : OwnB w2 (w.heap.size + 1) (.slice f0 n' g0) (kzs.getD k []) := by
          unfold OwnB
          rw [H1.out]
          exact owns_base hu hsz
        have R1 := Hid.in (list_step (v := .slice f0 n' g0) hO2 HV.out hlt)
        have R2 := Hid.in (list_in (w' := w2.setCell ⟨w.heap.size, k, none⟩ (.slice f0 n' g0)) HV.out HI.out (fun v kz h => ownsRow_setCell_below (owns_below h (Nat.le_refl _) hb) (by simp) _) (ownsRow_setCell_below hu' (by simp) _))
        have R3 := Hid.in ((HN.out.trans (hb.mono HN.out.size)).setCell (p := ⟨w.heap.size, k, none⟩) (Nat.le_refl _) (.slice f0 n' g0))
        clear hu hb hO2 hu'
        go_wp2
        go_roundw
        case rel => exact ⟨k + 1, vs ++ [.slice f0 n' g0], by omega, by go_num, by simp [HV.out], R1.out, R2.out, R3.out⟩
        case measure => simp [intOf]; omega
      · have hkn : k = n := by omega
        have HKN := Hid.in hkn
        clear hkn
        go_wp2
        go_ret
        exact ⟨_, vs, rfl, by rw [HV.out, HKN.out], by have := HO.out; rw [HKN.out, Nat.sub_self] at this; simpa using this, fun j hj => owns_base (HI.out j (by omega)) (Nat.le_succ _), HN.out⟩
end Go.Proofs.Qxb6603923aMods
