/-
  infoWord; the walk of FnInfoWordAlphabet.
-/
import Derived.Test.Qxb6605205aModsBase
import Derived.Laws.IdiomStrings
namespace Go.Proofs.Qxb6605205aMods
open Go.RowKit

/-- A byte that an info word may hold. -/
def okB (x : Int) : Bool := (decide (97 ≤ x) && decide (x ≤ 122)) || (decide (65 ≤ x) && decide (x ≤ 90)) || (decide (48 ≤ x) && decide (x ≤ 57)) || x == 46 || x == 95 || x == 45

theorem bytes13_any (s : ByteArray) (w : World) (m : s.size ≤ maxLen) : Calls Trym.prog 13 #[.string s] w (RetB w (Bnd1 s.size)) := by
  unfold maxLen at m
  go_enter Trym.func13, Trym.ntmps13
  go_wp2
  all_goals try (go_ret; exact retB false bnd1_no; done)
  go_ret
  exact retB true (fun _ => by omega)

abbrev alpha : ByteArray := ⟨#[65, 66, 67, 68, 69, 70, 71, 72, 73, 74, 75, 76, 77, 78, 79, 80, 81, 82, 83, 84, 85, 86, 87, 88, 89, 90, 97, 98, 99, 100, 101, 102, 103, 104, 105, 106, 107, 108, 109, 110, 111, 112, 113, 114, 115, 116, 117, 118, 119, 120, 121, 122, 48, 49, 50, 51, 52, 53, 54, 55, 56, 57, 45, 46, 95]⟩

def al : List Nat := [65, 66, 67, 68, 69, 70, 71, 72, 73, 74, 75, 76, 77, 78, 79, 80, 81, 82, 83, 84, 85, 86, 87, 88, 89, 90, 97, 98, 99, 100, 101, 102, 103, 104, 105, 106, 107, 108, 109, 110, 111, 112, 113, 114, 115, 116, 117, 118, 119, 120, 121, 122, 48, 49, 50, 51, 52, 53, 54, 55, 56, 57, 45, 46, 95]
theorem al_at : ∀ k, (h : k < 65) → (alpha[k]'h).toNat = al.getD k 0 := by decide +kernel
theorem al_ok : ∀ n : Nat, n < 256 → okB (n : Int) = al.contains n := by decide +kernel
theorem okB_al {x : Int} (h0 : 0 ≤ x) (h1 : x ≤ 255) : okB x = true ↔ ∃ k, k < 65 ∧ (al.getD k 0 : Int) = x := by
  have e : x = ((x.toNat : Nat) : Int) := by omega
  rw [e, al_ok x.toNat (by omega), List.contains_iff_mem]
  constructor
  · intro h
    obtain ⟨k, hk, e1⟩ := List.mem_iff_getElem.1 h
    have hk' : k < 65 := hk
    refine ⟨k, hk', ?_⟩
    have e2 : al.getD k 0 = x.toNat := by simp [List.getD, hk, e1]
    omega
  · rintro ⟨k, hk, e1⟩
    have hk' : k < al.length := hk
    have e2 : al.getD k 0 = x.toNat := by omega
    rw [← e2]
    simp [List.getD, hk']
theorem alpha_yes {x : Int} {k : Nat} (h0 : 0 ≤ x) (h1 : x ≤ 255) (hk : k < 65) (h : (((alpha[k]'hk).toNat : Int) == x) = true) : true = okB x := by
  refine ((okB_al h0 h1).2 ⟨k, hk, ?_⟩).symm
  rw [← al_at k hk]
  exact beq_iff_eq.1 h
theorem alpha_step {x : Int} {k : Nat} (hk : k < 65) (h : (((alpha[k]'hk).toNat : Int) == x) = false) (hn : ∀ j, j < k → (al.getD j 0 : Int) ≠ x) : ∀ j, j < k + 1 → (al.getD j 0 : Int) ≠ x := by
  intro j hj
  by_cases e : j = k
  · subst e
    rw [← al_at j hk]
    exact beq_eq_false_iff_ne.1 h
  · exact hn j (by omega)
theorem alpha_no {x : Int} (h0 : 0 ≤ x) (h1 : x ≤ 255) (hn : ∀ j, j < 65 → (al.getD j 0 : Int) ≠ x) : false = okB x := by
  cases e : okB x
  · rfl
  · obtain ⟨k, hk, e1⟩ := (okB_al h0 h1).1 e
    exact absurd e1 (hn k hk)

set_option maxRecDepth 100000 in
set_option maxHeartbeats 1000000 in
theorem inAlpha_any (x : Int) (w : World) (h0 : 0 ≤ x) (h1 : x ≤ 255) : Calls Trym.prog 14 #[.int .u8 x] w (RetB w (fun b => b = okB x)) := by
  go_enter Trym.func14, Trym.ntmps14
  go_wp2
  go_loop [3] (fun i => ∃ k : Nat, k ≤ 65 ∧ i = .int .i64 k ∧ Hid (∀ j, j < k → (al.getD j 0 : Int) ≠ x)) (fun i => 65 - (intOf i).toNat)
  case atStart => exact ⟨0, Nat.zero_le _, rfl, fun j hj => by omega⟩
  case round =>
    obtain ⟨k, hk, rfl, HN⟩ := hrel
    by_cases hlt : k < 65
    · go_wp2
      · have he : (((alpha[k]'hlt).toNat : Int) == x) = true := by assumption
        go_ret
        exact retB true (alpha_yes h0 h1 hlt he)
      · have he : (((alpha[k]'hlt).toNat : Int) == x) = false := by assumption
        go_round
        case rel => exact ⟨k + 1, by omega, by go_num, alpha_step hlt he HN.out⟩
        case measure => simp [intOf]; omega
    · go_wp2
      go_ret
      exact retB false (alpha_no h0 h1 (fun j hj => HN.out j (by omega)))

/-! ### infoWord -/
def OkW (s : ByteArray) : Prop := 0 < s.size ∧ ∀ i (h : i < s.size), okB ((s[i]'h).toNat : Int) = true
def RetN (w : World) (P : Prop) (e : Ending) (w' : World) : Prop := (∃ x : Bool, e = .returned (.bool x) ∧ (x = true ↔ P)) ∧ Below w.heap.size w w'
theorem retN_no {w w' : World} {P : Prop} (h : ¬ P) (hb : Below w.heap.size w w') : RetN w P (.returned (.bool false)) w' := ⟨⟨false, rfl, by simp [h]⟩, hb⟩
theorem retN_yes {w w' : World} {P : Prop} (h : P) (hb : Below w.heap.size w w') : RetN w P (.returned (.bool true)) w' := ⟨⟨true, rfl, by simp [h]⟩, hb⟩

theorem conv_ex (s : ByteArray) (w : World) : ∃ cap W, (convert 9 31 (.string s)).run Trym.prog w = .ok (.slice (some ⟨w.heap.size, 0, none⟩) s.size cap) W ∧ (∀ k (h : k < s.size), W.cell? ⟨w.heap.size, k, none⟩ = some (.int .u8 ((s[k]'h).toNat : Int))) ∧ Below w.heap.size w W := by
  refine ⟨_, _, run_bytes_of_string w 9 31 5 s Trym.underlying9 Trym.underlying31 Trym.underlying5, fun k hk => ?_, (Below.refl _ _).drew.alloc (Nat.le_refl _) _⟩
  have hk' : k < s.data.size := hk
  have e1 : (bytesRow s (grownCap w s.size 0 5))[k]? = some (.int .u8 ((s[k]'hk).toNat : Int)) := by
    unfold bytesRow
    rw [Array.getElem?_append_left (by simpa using hk'), Array.getElem?_map, Array.getElem?_eq_getElem hk']
    rfl
  exact (World.cell?_alloc_mark w.drew _ _ _ k).trans e1

theorem isEmpty_of {s : ByteArray} (h : s.size = 0) : s.toList.isEmpty = true := by
  rw [ByteArray.toList_eq]
  have : s.data.size = 0 := h
  have h2 : s.data.toList = [] := List.length_eq_zero_iff.1 (by simpa using this)
  rw [h2]; rfl
theorem notEmpty_of {s : ByteArray} (h : 0 < s.size) : s.toList.isEmpty = false := by
  rw [ByteArray.toList_eq]
  cases e : s.data.toList with
  | nil =>
    have : s.data.size = 0 := by rw [← Array.length_toList, e]; rfl
    have h2 : s.data.size = s.size := rfl
    omega
  | cons _ _ => rfl

theorem ranges (x : Int) : ((x ≤ 44) ∧ (x == 46) = false ∧ (x == 95) = false ∧ (x == 45) = false ∧ decide (x ≤ 122) = true ∧ decide (x ≤ 90) = true ∧ decide (x ≤ 57) = true) ∨ ((45 ≤ x ∧ x ≤ 45) ∧ (x == 46) = false ∧ (x == 95) = false ∧ (x == 45) = true ∧ decide (x ≤ 122) = true ∧ decide (x ≤ 90) = true ∧ decide (x ≤ 57) = true) ∨ ((46 ≤ x ∧ x ≤ 46) ∧ (x == 46) = true ∧ (x == 95) = false ∧ (x == 45) = false ∧ decide (x ≤ 122) = true ∧ decide (x ≤ 90) = true ∧ decide (x ≤ 57) = true) ∨ ((47 ≤ x ∧ x ≤ 47) ∧ (x == 46) = false ∧ (x == 95) = false ∧ (x == 45) = false ∧ decide (x ≤ 122) = true ∧ decide (x ≤ 90) = true ∧ decide (x ≤ 57) = true) ∨ ((48 ≤ x ∧ x ≤ 57) ∧ (x == 46) = false ∧ (x == 95) = false ∧ (x == 45) = false ∧ decide (x ≤ 122) = true ∧ decide (x ≤ 90) = true ∧ decide (x ≤ 57) = true) ∨ ((58 ≤ x ∧ x ≤ 64) ∧ (x == 46) = false ∧ (x == 95) = false ∧ (x == 45) = false ∧ decide (x ≤ 122) = true ∧ decide (x ≤ 90) = true ∧ decide (x ≤ 57) = false) ∨ ((65 ≤ x ∧ x ≤ 90) ∧ (x == 46) = false ∧ (x == 95) = false ∧ (x == 45) = false ∧ decide (x ≤ 122) = true ∧ decide (x ≤ 90) = true ∧ decide (x ≤ 57) = false) ∨ ((91 ≤ x ∧ x ≤ 94) ∧ (x == 46) = false ∧ (x == 95) = false ∧ (x == 45) = false ∧ decide (x ≤ 122) = true ∧ decide (x ≤ 90) = false ∧ decide (x ≤ 57) = false) ∨ ((95 ≤ x ∧ x ≤ 95) ∧ (x == 46) = false ∧ (x == 95) = true ∧ (x == 45) = false ∧ decide (x ≤ 122) = true ∧ decide (x ≤ 90) = false ∧ decide (x ≤ 57) = false) ∨ ((96 ≤ x ∧ x ≤ 96) ∧ (x == 46) = false ∧ (x == 95) = false ∧ (x == 45) = false ∧ decide (x ≤ 122) = true ∧ decide (x ≤ 90) = false ∧ decide (x ≤ 57) = false) ∨ ((97 ≤ x ∧ x ≤ 122) ∧ (x == 46) = false ∧ (x == 95) = false ∧ (x == 45) = false ∧ decide (x ≤ 122) = true ∧ decide (x ≤ 90) = false ∧ decide (x ≤ 57) = false) ∨ ((123 ≤ x) ∧ (x == 46) = false ∧ (x == 95) = false ∧ (x == 45) = false ∧ decide (x ≤ 122) = false ∧ decide (x ≤ 90) = false ∧ decide (x ≤ 57) = false) := by
  have h : (x ≤ 44) ∨ (45 ≤ x ∧ x ≤ 45) ∨ (46 ≤ x ∧ x ≤ 46) ∨ (47 ≤ x ∧ x ≤ 47) ∨ (48 ≤ x ∧ x ≤ 57) ∨ (58 ≤ x ∧ x ≤ 64) ∨ (65 ≤ x ∧ x ≤ 90) ∨ (91 ≤ x ∧ x ≤ 94) ∨ (95 ≤ x ∧ x ≤ 95) ∨ (96 ≤ x ∧ x ≤ 96) ∨ (97 ≤ x ∧ x ≤ 122) ∨ (123 ≤ x) := by omega
  have e : ∀ n : Int, x ≠ n → (x == n) = false := fun n h => beq_eq_false_iff_ne.2 h
  have f : ∀ n : Int, x = n → (x == n) = true := fun n h => beq_iff_eq.2 h
  rcases h with h | h | h | h | h | h | h | h | h | h | h | h
  · exact .inl ⟨h, e 46 (by omega), e 95 (by omega), e 45 (by omega), decide_eq_true (by omega), decide_eq_true (by omega), decide_eq_true (by omega)⟩
  · exact .inr (.inl ⟨h, e 46 (by omega), e 95 (by omega), f 45 (by omega), decide_eq_true (by omega), decide_eq_true (by omega), decide_eq_true (by omega)⟩)
  · exact .inr (.inr (.inl ⟨h, f 46 (by omega), e 95 (by omega), e 45 (by omega), decide_eq_true (by omega), decide_eq_true (by omega), decide_eq_true (by omega)⟩))
  · exact .inr (.inr (.inr (.inl ⟨h, e 46 (by omega), e 95 (by omega), e 45 (by omega), decide_eq_true (by omega), decide_eq_true (by omega), decide_eq_true (by omega)⟩)))
  · exact .inr (.inr (.inr (.inr (.inl ⟨h, e 46 (by omega), e 95 (by omega), e 45 (by omega), decide_eq_true (by omega), decide_eq_true (by omega), decide_eq_true (by omega)⟩))))
  · exact .inr (.inr (.inr (.inr (.inr (.inl ⟨h, e 46 (by omega), e 95 (by omega), e 45 (by omega), decide_eq_true (by omega), decide_eq_true (by omega), decide_eq_false (by omega)⟩)))))
  · exact .inr (.inr (.inr (.inr (.inr (.inr (.inl ⟨h, e 46 (by omega), e 95 (by omega), e 45 (by omega), decide_eq_true (by omega), decide_eq_true (by omega), decide_eq_false (by omega)⟩))))))
  · exact .inr (.inr (.inr (.inr (.inr (.inr (.inr (.inl ⟨h, e 46 (by omega), e 95 (by omega), e 45 (by omega), decide_eq_true (by omega), decide_eq_false (by omega), decide_eq_false (by omega)⟩)))))))
  · exact .inr (.inr (.inr (.inr (.inr (.inr (.inr (.inr (.inl ⟨h, e 46 (by omega), f 95 (by omega), e 45 (by omega), decide_eq_true (by omega), decide_eq_false (by omega), decide_eq_false (by omega)⟩))))))))
  · exact .inr (.inr (.inr (.inr (.inr (.inr (.inr (.inr (.inr (.inl ⟨h, e 46 (by omega), e 95 (by omega), e 45 (by omega), decide_eq_true (by omega), decide_eq_false (by omega), decide_eq_false (by omega)⟩)))))))))
  · exact .inr (.inr (.inr (.inr (.inr (.inr (.inr (.inr (.inr (.inr (.inl ⟨h, e 46 (by omega), e 95 (by omega), e 45 (by omega), decide_eq_true (by omega), decide_eq_false (by omega), decide_eq_false (by omega)⟩))))))))))
  · exact .inr (.inr (.inr (.inr (.inr (.inr (.inr (.inr (.inr (.inr (.inr (⟨h, e 46 (by omega), e 95 (by omega), e 45 (by omega), decide_eq_false (by omega), decide_eq_false (by omega), decide_eq_false (by omega)⟩)))))))))))
theorem okB_iff (x : Int) : okB x = true ↔ (97 ≤ x ∧ x ≤ 122) ∨ (65 ≤ x ∧ x ≤ 90) ∨ (48 ≤ x ∧ x ≤ 57) ∨ x = 46 ∨ x = 95 ∨ x = 45 := by
  simp [okB]; omega

set_option maxRecDepth 100000 in
set_option maxHeartbeats 2000000 in
theorem infoWord_any (s : ByteArray) (w : World) (hm : s.size ≤ maxLen) : Calls Trym.prog 15 #[.string s] w (RetN w (OkW s)) := by
  unfold maxLen at hm
  obtain ⟨cap, W, hrun, hcell, hbel⟩ := conv_ex s w
  have HC := Hid.in hcell
  have HB := Hid.in hbel
  clear hcell hbel
  by_cases hz : s.size = 0
  · have he := isEmpty_of hz
    have HN : Hid (¬ OkW s) := fun h => by have := h.1; omega
    clear hz
    go_enter Trym.func15, Trym.ntmps15
    go_wp2
    go_ret
    exact retN_no HN.out (Below.refl _ _)
  · have he := notEmpty_of (s := s) (by omega)
    have hp : 0 < s.size := by omega
    clear hz
    go_enter Trym.func15, Trym.ntmps15
    go_wp2
    go_loop [4, 10] (fun _ i => ∃ k : Nat, k ≤ s.size ∧ i = .int .i64 k ∧ Hid (∀ i (h : i < s.size), i < k → okB ((s[i]'h).toNat : Int) = true)) (fun _ i => s.size - (intOf i).toNat)
    case atStart => exact ⟨0, Nat.zero_le _, rfl, fun i _ hi => by omega⟩
    case round =>
      obtain ⟨k, hk, rfl, HI⟩ := hrel
      by_cases hlt : k < s.size
      · obtain ⟨x, hx⟩ : ∃ x : Int, x = ((s[k]'hlt).toNat : Int) := ⟨_, rfl⟩
        have hc : W.cell? ⟨w.heap.size, k, none⟩ = some (.int .u8 x) := by rw [hx]; exact HC.out k hlt
        have X := Hid.in hx
        clear hx
        have NO : Hid (okB x = false → ¬ OkW s) := fun h1 h2 => by have := h2.2 k hlt; rw [← X.out, h1] at this; cases this
        have YES : Hid (okB x = true → ∀ i (h : i < s.size), i < k + 1 → okB ((s[i]'h).toNat : Int) = true) := fun h1 i h hi => by
          by_cases e : i = k
          · subst e; rw [← X.out]; exact h1
          · exact HI.out i h (by omega)
        rcases ranges x with ⟨h, e46, e95, e45, d122, d90, d57⟩ | ⟨h, e46, e95, e45, d122, d90, d57⟩ | ⟨h, e46, e95, e45, d122, d90, d57⟩ | ⟨h, e46, e95, e45, d122, d90, d57⟩ | ⟨h, e46, e95, e45, d122, d90, d57⟩ | ⟨h, e46, e95, e45, d122, d90, d57⟩ | ⟨h, e46, e95, e45, d122, d90, d57⟩ | ⟨h, e46, e95, e45, d122, d90, d57⟩ | ⟨h, e46, e95, e45, d122, d90, d57⟩ | ⟨h, e46, e95, e45, d122, d90, d57⟩ | ⟨h, e46, e95, e45, d122, d90, d57⟩ | ⟨h, e46, e95, e45, d122, d90, d57⟩
        all_goals
          go_wp2
          first
            | (go_ret; exact retN_no (NO.out (by cases e : okB x <;> first | rfl | (rw [okB_iff] at e; omega))) HB.out)
            | (go_round
               case rel => exact ⟨k + 1, by omega, by go_num, YES.out ((okB_iff x).2 (by omega))⟩
               case measure => simp [intOf]; omega)
      · go_wp2
        go_ret
        exact retN_yes ⟨hp, fun i h => HI.out i h (by omega)⟩ HB.out

theorem beq_bool {x : Bool} {P : Prop} (h : x = true ↔ P) (hp : P) : (x == true) = true := by rw [h.2 hp]; rfl
theorem beq_bool_no {x : Bool} {P : Prop} (h : x = true ↔ P) (hp : ¬ P) : (x == false) = true := by
  cases x
  · rfl
  · exact absurd (h.1 rfl) hp

set_option maxRecDepth 100000 in
set_option maxHeartbeats 2000000 in
theorem lawInfo (s : ByteArray) (w : World) (hm : s.size ≤ maxLen) : Calls Trym.prog 5 #[.string s] w (RetT w) := by
  have HM := Hid.in hm
  go_enter Trym.func5, Trym.ntmps5
  go_wp2_with fail
  refine (bytes13_any s w hm).mono ?_
  rintro e w1 ⟨⟨x, rfl, hx⟩, hw⟩
  obtain rfl : w = w1 := hw.symm
  clear hm
  cases x
  · clear hx
    go_wp2
    go_ret
    exact ⟨rfl, Below.refl _ _⟩
  have q := hx rfl
  clear hx
  by_cases hz : s.size = 0
  · have HN : Hid (¬ OkW s) := fun h => by have := h.1; omega
    go_wp2
    refine wp_loop_rounds 1 ?_
    rw [rounds_succ]
    go_wp2_with fail
    refine (infoWord_any s w HM.out).mono ?_
    rintro e w2 ⟨⟨x, rfl, hx⟩, hb⟩
    have hr := beq_bool_no hx HN.out
    have HB := Hid.in hb
    clear hx hb
    go_wp2
    go_ret
    exact ⟨rfl, HB.out⟩
  · have hp : 0 < s.size := by omega
    go_wp2
    go_loop [3, 4] (fun b i => ∃ k : Nat, k ≤ s.size ∧ i = .int .i64 k ∧ b = .bool true ∧ Hid (∀ i (h : i < s.size), i < k → okB ((s[i]'h).toNat : Int) = true)) (fun _ i => s.size - (intOf i).toNat)
    case atStart => exact ⟨0, Nat.zero_le _, rfl, rfl, fun i _ hi => by omega⟩
    case round =>
      obtain ⟨k, hk, rfl, rfl, HI⟩ := hrel
      by_cases hlt : k < s.size
      · have hx1 : (((s[k]'hlt).toNat : Nat) : Int) ≤ 255 := by have := (s[k]'hlt).toNat_lt; omega
        have HX1 := Hid.in hx1
        clear hx1
        go_wp2_with fail
        refine (inAlpha_any _ w (by omega) HX1.out).mono ?_
        rintro e w2 ⟨⟨x, rfl, hx⟩, hw⟩
        obtain rfl : w = w2 := hw.symm
        cases x
        · have HN : Hid (¬ OkW s) := fun h => by have := h.2 k hlt; rw [← hx] at this; cases this
          clear hx
          go_wp2_with fail
          refine (infoWord_any s w HM.out).mono ?_
          rintro e w3 ⟨⟨x, rfl, hx⟩, hb⟩
          have hr := beq_bool_no hx HN.out
          have HB := Hid.in hb
          clear hx hb
          go_wp2
          go_ret
          exact ⟨rfl, HB.out⟩
        · have YES : Hid (∀ i (h : i < s.size), i < k + 1 → okB ((s[i]'h).toNat : Int) = true) := fun i h hi => by
            by_cases e : i = k
            · subst e; exact hx.symm
            · exact HI.out i h (by omega)
          clear hx
          go_wp2
          go_round
          case rel => exact ⟨k + 1, by omega, by go_num, rfl, YES.out⟩
          case measure => simp [intOf]; omega
      · have HY : Hid (OkW s) := ⟨hp, fun i h => HI.out i h (by omega)⟩
        go_wp2_with fail
        refine (infoWord_any s w HM.out).mono ?_
        rintro e w3 ⟨⟨x, rfl, hx⟩, hb⟩
        have hr := beq_bool hx HY.out
        have HB := Hid.in hb
        clear hx hb
        go_wp2
        go_ret
        exact ⟨rfl, HB.out⟩
end Go.Proofs.Qxb6605205aMods
