/-
  Sets of strings kept in a map[string]bool (every element true): the laws on them; zzKeySet; zzWellFormed.
-/
import Derived.Test.Qxb6603923aModsPlace1
namespace Go.Proofs.Qxb6603923aMods
open Go.RowKit Go.Maps

theorem law9 : Keyed Trym.prog 9 := string_keyed Trym.underlying9
theorem zero4 (w : World) : (zeroValue 4).run Trym.prog w = .ok (.bool false) w := by kernel_rfl
theorem run_makeMap_hint (n : Int) (w : World) : (Instr.makeMap 44 (some (.int .i64 n))).run Trym.prog w = .ok (.map (some w.heap.size)) (w.alloc (.map #[] 0)) := by
  simp [Instr.makeMap, run_underlying Trym.underlying44, asInt, newObj, Result.andThen]
  rfl

def keyLit (s : ByteArray) : Lit := .string s.data.toList
/-- Is s among the keys? How many different keys? -/
def memB (acc : List ByteArray) (s : ByteArray) : Bool := acc.any (fun t => t.data.toList == s.data.toList)
theorem memB_iff (acc : List ByteArray) (s : ByteArray) : memB acc s = true ↔ s ∈ acc := by
  unfold memB
  rw [List.any_eq_true]
  constructor
  · rintro ⟨t, ht, h⟩
    rw [← ByteArray.ext (Array.toList_inj.mp (beq_iff_eq.1 h))]; exact ht
  · intro h; exact ⟨s, h, by simp⟩
theorem memB_snoc (acc : List ByteArray) (s t : ByteArray) : memB (acc ++ [s]) t = (memB acc t || memB [s] t) := by
  unfold memB; rw [List.any_append]
theorem memB_one_same (s : ByteArray) : memB [s] s = true := (memB_iff _ _).2 (by simp)
theorem memB_one_other {s t : ByteArray} (h : t ≠ s) : memB [s] t = false := by
  cases e : memB [s] t
  · rfl
  · exact absurd (by simpa using (memB_iff _ _).1 e) h
def DD (acc : List ByteArray) : DataW Unit := setOf (.lit (.bool true)) (acc.map keyLit)
def dcount (acc : List ByteArray) : Nat := Maps.size (DD acc)

theorem keyLit_inj {x y : ByteArray} (h : keyLit x = keyLit y) : x = y := by
  unfold keyLit at h
  injection h with h
  exact ByteArray.ext (Array.toList_inj.mp h)
theorem isKey (s : ByteArray) : WideAt.IsKeyLit (keyLit s) := by simp [keyLit, WideAt.IsKeyLit]
theorem isKeys (acc : List ByteArray) : ∀ x ∈ acc.map keyLit, WideAt.IsKeyLit x := by
  intro x hx
  obtain ⟨s, _, rfl⟩ := List.mem_map.1 hx
  exact isKey s
theorem DD_snoc (acc : List ByteArray) (s : ByteArray) : DD (acc ++ [s]) = (DD acc).put (keyLit s) (.lit (.bool true)) := by
  unfold DD
  rw [List.map_append, List.map_cons, List.map_nil, setOf_snoc]
theorem DD_tidy (acc : List ByteArray) : Tidy (DD acc) := tidy_setOf _ _ (isKeys acc)
theorem has_DD (acc : List ByteArray) (s : ByteArray) : Maps.has (DD acc) (keyLit s) = memB acc s := by
  unfold DD
  rw [has_setOf _ _ _ (isKeys acc), Bool.eq_iff_iff, List.any_eq_true, memB_iff]
  constructor
  · rintro ⟨x, hx, hs⟩
    obtain ⟨y, hy, rfl⟩ := List.mem_map.1 hx
    rw [WideAt.sameKey_iff (isKey s)] at hs
    rw [← keyLit_inj hs]; exact hy
  · intro h
    exact ⟨keyLit s, List.mem_map_of_mem h, WideAt.sameKey_self (isKey s)⟩
theorem dcount_nil : dcount [] = 0 := rfl
theorem dcount_snoc (acc : List ByteArray) (s : ByteArray) : dcount (acc ++ [s]) = if memB acc s then dcount acc else dcount acc + 1 := by
  unfold dcount
  rw [DD_snoc, size_put (DD_tidy acc), has_DD]
theorem atKey_snoc (acc : List ByteArray) (s t : ByteArray) (z : DataW Unit) : (DD (acc ++ [s])).atKey (keyLit t) z = if t = s then .lit (.bool true) else (DD acc).atKey (keyLit t) z := by
  rw [DD_snoc]
  by_cases h : t = s
  · subst h; rw [if_pos rfl, atKey_put_same (DD_tidy acc).isMap (isKey t)]
  · rw [if_neg h, atKey_put_other (fun e => h (keyLit_inj e))]
theorem atKey_DD (t : ByteArray) (acc : List ByteArray) : (DD acc.reverse).atKey (keyLit t) (.lit (.bool false)) = .lit (.bool (memB acc.reverse t)) := by
  induction acc with
  | nil => rfl
  | cons s r ih =>
    rw [List.reverse_cons, atKey_snoc, memB_snoc]
    by_cases h : t = s
    · rw [if_pos h, h, memB_one_same, Bool.or_true]
    · rw [if_neg h, ih, memB_one_other h, Bool.or_false]
theorem atKey_DD' (t : ByteArray) (acc : List ByteArray) : (DD acc).atKey (keyLit t) (.lit (.bool false)) = .lit (.bool (memB acc t)) := by
  have := atKey_DD t acc.reverse
  simpa using this

/-- Block b of w is a map[string]bool of at most n entries, whose keys are acc, all true. -/
def SetM (w : World) (b n : Nat) (acc : List ByteArray) : Prop := w.ownsMap Trym.prog 9 (plainElem Trym.prog 4) b n (DD acc)
/-- .. or it is nil and acc is empty. -/
def MSet (w : World) (r : Option Nat) (n : Nat) (acc : List ByteArray) : Prop := (r = none ∧ acc = []) ∨ ∃ b, r = some b ∧ SetM w b n acc

theorem plainElem_bool_inv {v : Value} {z : DataW Unit × List MemPlace} (h : plainElem Trym.prog 4 v = some z) : ∃ x, v = .bool x ∧ z = (.lit (.bool x), []) := by
  unfold plainElem at h
  rw [Trym.underlying4] at h
  cases v <;> simp at h
  exact ⟨_, rfl, h.symm⟩

theorem SetM.look {w : World} {b n : Nat} {acc : List ByteArray} (h : SetM w b n acc) {s : ByteArray} (hs : s.size ≤ maxLen) :
    (Instr.lookup 44 (.map (some b)) (.string s) false).run Trym.prog w = .ok (.bool (memB acc s)) w := by
  obtain ⟨v, ps, hrun, hv⟩ := h.lookup law9 Trym.underlying44 (zero4 w) (plainElem_bool Trym.underlying4 false) (WideMaps.keyOf_string_mk Trym.underlying9 hs)
  obtain ⟨x, rfl, hx⟩ := plainElem_bool_inv hv
  have h2 : (DD acc).atKey (keyLit s) (.lit (.bool false)) = .lit (.bool x) := (Prod.mk.inj hx).1
  rw [atKey_DD'] at h2
  have h3 : memB acc s = x := by injection h2 with h2; injection h2
  rw [h3]; exact hrun

theorem MSet.look {w : World} {r : Option Nat} {n : Nat} {acc : List ByteArray} (h : MSet w r n acc) {s : ByteArray} (hs : s.size ≤ maxLen) :
    (Instr.lookup 44 (.map r) (.string s) false).run Trym.prog w = .ok (.bool (memB acc s)) w := by
  rcases h with ⟨rfl, rfl⟩ | ⟨b, rfl, h⟩
  · have := Maps.look_nil (P := Trym.prog) (w := w) (t := 44) false law9 Trym.underlying44 (zero4 w) (WideMaps.keyOf_string_mk Trym.underlying9 hs)
    simpa [memB] using this
  · exact h.look hs

theorem MSet.len {w : World} {r : Option Nat} {n : Nat} {acc : List ByteArray} (h : MSet w r n acc) (ty : TypeId) :
    (Builtin.len_ #[44] ty #[.map r]).run Trym.prog w = .ok (.int .i64 (dcount acc)) w := by
  rcases h with ⟨rfl, rfl⟩ | ⟨b, rfl, h⟩
  · exact Maps.len_nil Trym.underlying44 ty
  · exact World.ownsMap.len h Trym.underlying44 ty

theorem SetM.update {w : World} {b n : Nat} {acc : List ByteArray} (h : SetM w b n acc) (hn : n < maxLen) {s : ByteArray} (hs : s.size ≤ maxLen) :
    ∃ w', (Instr.mapUpdate 44 (.map (some b)) (.string s) (.bool true)).run Trym.prog w = .ok () w' ∧ SetM w' b (n + 1) (acc ++ [s]) ∧ w.mapTurned w' b := by
  obtain ⟨w', h1, h2, h3⟩ := World.ownsMap.store h law9 Trym.underlying44 hn (WideMaps.keyOf_string_mk Trym.underlying9 hs) (plainElem_bool Trym.underlying4 true)
  exact ⟨w', h1, by unfold SetM; rw [DD_snoc]; exact h2, h3⟩

section
variable {ops : Array Oper} {rest : List Oper} {o : Oper} {a : Act} {Q : Exit → Act → World → Prop}

theorem wpList_look (w : World) (hg : o.guard = none) (m x : Operand) (hop : o.op = Op.lookup 44 m x false) (r : Option Nat) (n : Nat) (acc : List ByteArray) (s : ByteArray)
    (hm : a.eval m = .map r) (hx : a.eval x = .string s) (h : MSet w r n acc) (hs : s.size ≤ maxLen) (hK : wpList Trym.prog ops Q rest (a.put o.dst (.bool (memB acc s))) w) :
    wpList Trym.prog ops Q (o :: rest) a w := by
  refine wpList_plain hg fun K' hK' => ?_
  unfold Oper.wp
  simp [execOp, hop, hm, hx, h.look hs, Result.andThen]
  exact hK' _ _ hK

theorem wpList_upd (w : World) (hg : o.guard = none) (m x v : Operand) (hop : o.op = Op.mapUpdate 44 m x v) (b n : Nat) (acc : List ByteArray) (s : ByteArray)
    (hm : a.eval m = .map (some b)) (hx : a.eval x = .string s) (hv : a.eval v = .bool true) (h : SetM w b n acc) (hn : n < maxLen) (hs : s.size ≤ maxLen)
    (hK : ∀ w', SetM w' b (n + 1) (acc ++ [s]) → w.mapTurned w' b → wpList Trym.prog ops Q rest (a.put o.dst undef) w') :
    wpList Trym.prog ops Q (o :: rest) a w := by
  refine wpList_plain hg fun K' hK' => ?_
  obtain ⟨w', hrun, r1, r2⟩ := h.update hn hs
  unfold Oper.wp
  simp [execOp, hop, hm, hx, hv, hrun, Result.andThen]
  exact hK' _ _ (hK w' r1 r2)

theorem wpList_mlen (w : World) (hg : o.guard = none) (m : Operand) (hop : o.op = Op.call { callee := Callee.builtin Builtin.len, args := #[m], argTypes := #[44] }) (r : Option Nat) (n : Nat) (acc : List ByteArray)
    (hm : a.eval m = .map r) (h : MSet w r n acc) (hK : wpList Trym.prog ops Q rest (a.put o.dst (.int .i64 (dcount acc))) w) :
    wpList Trym.prog ops Q (o :: rest) a w := by
  refine wpList_plain hg fun K' hK' => ?_
  unfold Oper.wp
  simp [execOp, hop, resolve, invoke, builtin, hm, h.len o.type, Result.andThen]
  exact hK' _ _ hK
end

/-! ### zzKeySet -/
def RetMap (w : World) (n : Nat) (acc : List ByteArray) (e : Ending) (w' : World) : Prop := ∃ r, e = .returned (.map r) ∧ MSet w' r n acc ∧ (∀ b, r = some b → w.heap.size ≤ b) ∧ Below w.heap.size w w'

theorem SetM.made (w : World) : SetM (w.alloc (.map #[] 0)) w.heap.size 0 [] := World.ownsMap_made w _ _ _
theorem take_snoc' {α : Type} (ss : List α) (k : Nat) (d : α) (h : k < ss.length) : ss.take (k + 1) = ss.take k ++ [ss.getD k d] := by
  rw [List.take_succ_eq_append_getElem h]; simp [List.getD, h]
theorem below_turned {B : Nat} {w wr w1 : World} {b : Nat} (h : Below B w wr) (ht : wr.mapTurned w1 b) (hB : B ≤ b) (hs : B ≤ wr.heap.size) : Below B w w1 :=
  h.grown ht.grown hs (fun k hk => by cases hk; exact hB)
theorem getD_mem {α : Type} (ss : List α) (k : Nat) (d : α) (h : k < ss.length) : ss.getD k d ∈ ss := by
  simp [List.getD, h]

set_option maxHeartbeats 400000 in
theorem keySet_any (a : Option Addr) (n c : Nat) (ss : List ByteArray) (w : World) (h : Row w a n (strV ss)) (hl : ss.length = n) (hs : ∀ s ∈ ss, s.size ≤ maxLen) (hn : n ≤ 4194304) :
    Calls Trym.prog 23 #[.slice a n c] w (RetMap w n ss) := by
  have HL : Hid (ss.length = n) := hl
  have HS : Hid (∀ s ∈ ss, s.size ≤ maxLen) := hs
  clear hl hs
  have hq := fun (x : Option Addr) (n c : Nat) (w : World) => Lib.run_eql_slice_nil (P := Trym.prog) w 38 9 x n c 0 0 Trym.underlying38
  have hmk := run_makeMap_hint
  rcases h with h0 | ⟨b, off, rfl, hc⟩
  · obtain rfl : n = 0 := by omega
    have hs0 : ss = [] := List.length_eq_zero_iff.1 HL.out
    subst hs0
    clear h0 HL HS
    cases a with
    | none =>
      go_enter Trym.func23, Trym.ntmps23
      go_wp2
      go_ret
      exact ⟨_, rfl, .inl ⟨rfl, rfl⟩, (fun b hb => by cases hb), Below.refl _ _⟩
    | some x =>
      go_enter Trym.func23, Trym.ntmps23
      go_wp2
      refine wp_loop_rounds 1 ?_
      rw [rounds_succ]
      go_wp2
      go_ret
      exact ⟨_, rfl, .inr ⟨_, rfl, SetM.made w⟩, fun b hb => by cases hb; exact Nat.le_refl _, (Below.refl _ _).alloc (Nat.le_refl _) _⟩
  · go_enter Trym.func23, Trym.ntmps23
    go_wp2
    go_loopw [4] (fun i wr => ∃ k : Nat, k ≤ n ∧ i = .int .i64 k ∧ SetM wr w.heap.size k (ss.take k) ∧ Below w.heap.size w wr) (fun i _ => n - (intOf i).toNat)
    case atStart => exact ⟨0, Nat.zero_le _, rfl, SetM.made w, (Below.refl _ _).alloc (Nat.le_refl _) _⟩
    case round =>
      obtain ⟨k, hk, rfl, hown, hnx⟩ := hrel
      by_cases hlt : k < n
      · have hck : wr.cell? ⟨b, off + k, none⟩ = some (.string (ss.getD k ByteArray.empty)) := (cell_later hnx (hc k hlt))
        have hsk := HS.out _ (getD_mem ss k ByteArray.empty (by have := HL.out; omega))
        have R := take_snoc' ss k ByteArray.empty (by have := HL.out; omega)
        generalize ss.getD k ByteArray.empty = s at hck R hsk
        have RR := Hid.in R
        have HO := Hid.in hown
        have HN := Hid.in hnx
        clear hc R hown hnx
        go_wp2_with (at_mapUpdate; refine wpList_upd _ rfl _ _ _ rfl w.heap.size k (ss.take k) s rfl rfl rfl HO.out (by unfold maxLen; omega) hsk ?_; intro w1 hown1 hturn1)
        go_roundw
        case rel => exact ⟨k + 1, by omega, by go_num, by rw [RR.out]; exact hown1, below_turned HN.out hturn1 (Nat.le_refl _) HN.out.size⟩
        case measure => simp [intOf]; omega
      · have hkn : k = n := by omega
        have HO := Hid.in hown
        have HN := Hid.in hnx
        clear hown hnx hc
        go_wp2
        go_ret
        exact ⟨_, rfl, .inr ⟨_, rfl, by have := HO.out; rw [List.take_of_length_le (by have := HL.out; omega), hkn] at this; exact this⟩, fun b hb => by cases hb; exact Nat.le_refl _, HN.out⟩

theorem MSet.below {w w' : World} {r : Option Nat} {m : Nat} {ks : List ByteArray} (h : MSet w r m ks) (hr : ∀ b, r = some b → b < w.heap.size) (hb : Below w.heap.size w w') : MSet w' r m ks := by
  rcases h with h | ⟨b, rfl, h⟩
  · exact .inl h
  · refine .inr ⟨b, rfl, ?_⟩
    obtain ⟨es, clock, hh, F, hs, hD⟩ := h
    exact ⟨es, clock, (hb.block b (hr b rfl)).trans hh, F, hs, hD⟩

/-! ### zzWellFormed -/
def scanStep (N : Nat) (next : Option Nat) (v : Int) : Option Nat :=
  match next with
  | none => none
  | some t => if v < 0 ∨ (N : Int) ≤ v then none else if v = t then some (t + 1) else if (t : Int) < v then none else some t
def scan (N : Nat) (os : List Int) : Option Nat := os.foldl (scanStep N) (some 0)
def WF (ns : List ByteArray) (os : List Int) (c : Nat) : Prop := ns.Nodup ∧ scan ns.length os = some ns.length ∧ os.length = c

theorem scan_none (N : Nat) (os : List Int) : os.foldl (scanStep N) none = none := by
  induction os with
  | nil => rfl
  | cons v r ih => exact ih
theorem scan_snoc (N : Nat) (os : List Int) (v : Int) : scan N (os ++ [v]) = scanStep N (scan N os) v := by
  unfold scan; rw [List.foldl_append]; rfl
theorem scan_cut {N : Nat} {os : List Int} {k : Nat} (h : scan N (os.take k) = none) : scan N os = none := by
  rw [← List.take_append_drop k os]
  unfold scan at h ⊢
  rw [List.foldl_append, h, scan_none]
theorem scan_le {N : Nat} (os : List Int) : ∀ t, scan N os.reverse = some t → t ≤ os.length := by
  induction os with
  | nil => intro t h; cases h; exact Nat.le_refl _
  | cons v r ih =>
    intro t h
    rw [List.reverse_cons, scan_snoc] at h
    cases e : scan N r.reverse with
    | none => rw [e] at h; cases h
    | some u =>
      have := ih u e
      rw [e] at h
      unfold scanStep at h
      simp only at h
      repeat' split at h
      all_goals (first | (cases h; done) | (injection h with h; simp; omega))
theorem scan_le' {N : Nat} {os : List Int} {t : Nat} (h : scan N os = some t) : t ≤ os.length := by
  have := scan_le (N := N) os.reverse t (by rwa [List.reverse_reverse])
  simpa using this

/-- Some bool x, true just where P; new blocks at most. -/
def RetW (w : World) (P : Prop) (e : Ending) (w' : World) : Prop := (∃ x : Bool, e = .returned (.bool x) ∧ (x = true ↔ P)) ∧ Below w.heap.size w w'
theorem retW_no {w w' : World} {P : Prop} (h : ¬ P) (hb : Below w.heap.size w w') : RetW w P (.returned (.bool false)) w' := ⟨⟨false, rfl, by simp [h]⟩, hb⟩

theorem nodup_snoc {ss : List ByteArray} {k : Nat} {s : ByteArray} (hs : ss.take (k + 1) = ss.take k ++ [s]) (h : (ss.take k).Nodup) (hm : memB (ss.take k) s = false) : (ss.take (k + 1)).Nodup := by
  rw [hs, List.nodup_append]
  refine ⟨h, by simp, fun x hx y hy e => ?_⟩
  rw [List.mem_singleton] at hy
  subst e hy
  rw [(memB_iff _ _).2 hx] at hm
  cases hm
theorem nodup_cut {ss : List ByteArray} {k : Nat} {s : ByteArray} (hs : ss.take (k + 1) = ss.take k ++ [s]) (hm : memB (ss.take k) s = true) : ¬ ss.Nodup := by
  intro h
  have h1 : (ss.take (k + 1)).Nodup := h.sublist (List.take_sublist _ _)
  rw [hs, List.nodup_append] at h1
  exact h1.2.2 s ((memB_iff _ _).1 hm) s (by simp) rfl

theorem wf_end {ns : List ByteArray} {os : List Int} {n0 n1 t c : Nat} (hnd : ns.Nodup) (l0 : ns.length = n0) (l1 : os.length = n1) (hs : scan n0 os = some t) (ht : t = n0) : (((n1 : Int) == (c : Int)) = true) ↔ WF ns os c := by
  rw [beq_iff_eq]
  constructor
  · intro h; exact ⟨hnd, by rw [l0, hs, ht], by omega⟩
  · intro h; have := h.2.2; omega

set_option maxHeartbeats 2000000 in
theorem wellFormed_any (a0 a1 : Option Addr) (n0 c0 n1 c1 : Nat) (ns : List ByteArray) (os : List Int) (r : Option Nat) (m : Nat) (ks : List ByteArray) (w : World)
    (h0 : Row w a0 n0 (strV ns)) (l0 : ns.length = n0) (s0 : ∀ s ∈ ns, s.size ≤ maxLen) (b0 : n0 ≤ 4194304) (h1 : Row w a1 n1 (intV .i64 os)) (l1 : os.length = n1) (b1 : n1 ≤ 4194304) (hm : MSet w r m ks) (hr : ∀ b, r = some b → b < w.heap.size) :
    Calls Trym.prog 22 #[.slice a0 n0 c0, .slice a1 n1 c1, .map r] w (RetW w (WF ns os (dcount ks))) := by
  have L0 : Hid (ns.length = n0) := l0
  have L1 : Hid (os.length = n1) := l1
  have S0 : Hid (∀ s ∈ ns, s.size ≤ maxLen) := s0
  have HM : Hid (MSet w r m ks) := hm
  have HR : Hid (∀ b, r = some b → b < w.heap.size) := hr
  clear l0 l1 s0 hm hr
  have hmk := run_makeMap_hint
  rcases h0 with h0 | ⟨p0, off0, rfl, h0⟩ <;> rcases h1 with h1 | ⟨p1, off1, rfl, h1⟩
  all_goals
    go_enter Trym.func22, Trym.ntmps22
    go_wp2
    go_loopw [8] (fun i wr => ∃ k : Nat, k ≤ n0 ∧ i = .int .i64 k ∧ SetM wr w.heap.size k (ns.take k) ∧ (ns.take k).Nodup ∧ Below w.heap.size w wr) (fun i _ => n0 - (intOf i).toNat)
    case atStart => exact ⟨0, Nat.zero_le _, rfl, SetM.made w, by simp, (Below.refl _ _).alloc (Nat.le_refl _) _⟩
    case round =>
      obtain ⟨k, hk, rfl, hown, hnd, hnx⟩ := hrel
      by_cases hlt : k < n0
      · first | (exfalso; omega; done) | skip
        all_goals
          have hck : wr.cell? ⟨p0, off0 + k, none⟩ = some (.string (ns.getD k ByteArray.empty)) := (cell_later hnx (h0 k hlt))
          have hsk := S0.out _ (getD_mem ns k ByteArray.empty (by have := L0.out; omega))
          have R := take_snoc' ns k ByteArray.empty (by have := L0.out; omega)
          generalize ns.getD k ByteArray.empty = s at hck R hsk
          have RR := Hid.in R
          have HO := Hid.in hown
          have HN := Hid.in hnx
          have HD := Hid.in hnd
          clear h0 h1 R hown hnx hnd
          go_wp2_with (first | (at_lookup; refine wpList_look _ rfl _ _ rfl (some w.heap.size) k (ns.take k) s rfl rfl (.inr ⟨_, rfl, HO.out⟩) hsk ?_) | (at_mapUpdate; refine wpList_upd _ rfl _ _ _ rfl w.heap.size k (ns.take k) s rfl rfl rfl HO.out (by unfold maxLen; omega) hsk ?_; intro w1 hown1 hturn1))
          · have hme : memB (ns.take k) s = true := by assumption
            go_ret
            exact retW_no (fun h => nodup_cut RR.out hme h.1) HN.out
          · have hme : memB (ns.take k) s = false := by assumption
            go_roundw
            case rel => exact ⟨k + 1, by omega, by go_num, by rw [RR.out]; exact hown1, nodup_snoc RR.out HD.out hme, below_turned HN.out hturn1 (Nat.le_refl _) HN.out.size⟩
            case measure => simp [intOf]; omega
      · have ND : Hid ns.Nodup := by rw [List.take_of_length_le (by have := L0.out; omega)] at hnd; exact hnd
        have HN := Hid.in hnx
        have HM1 : Hid (MSet wr r m ks) := MSet.below HM.out HR.out HN.out
        clear hown hnd hnx h0
        obtain ⟨wo, rfl⟩ : ∃ wo : World, wo = wr := ⟨_, rfl⟩
        go_wp2
        go_loop [9, 10, 11] (fun nx i _ => ∃ k t : Nat, k ≤ n1 ∧ t ≤ k ∧ i = .int .i64 k ∧ nx = .int .i64 t ∧ scan n0 (os.take k) = some t) (fun _ i _ => n1 - (intOf i).toNat)
        case atStart => exact ⟨0, 0, Nat.zero_le _, Nat.le_refl _, rfl, rfl, rfl⟩
        case round =>
          obtain ⟨k, t, hk, htk, rfl, rfl, hsc⟩ := hrel
          have SC := Hid.in hsc
          clear hsc
          by_cases hlt : k < n1
          · first | (exfalso; omega; done) | skip
            all_goals
              have hck : wo.cell? ⟨p1, off1 + k, none⟩ = some (.int .i64 (os.getD k 0)) := (cell_later HN.out (h1 k hlt))
              have R := take_snoc' os k 0 (by have := L1.out; omega)
              generalize os.getD k 0 = v at hck R
              have RS : Hid (scan n0 (os.take (k + 1)) = scanStep n0 (some t) v) := by rw [R, scan_snoc, SC.out]; rfl
              clear h1 R
              have no : scanStep n0 (some t) v = none → ¬ WF ns os (dcount ks) := fun h hw => by
                have := scan_cut (RS.out.trans h)
                have h2 := hw.2.1
                rw [L0.out, this] at h2
                cases h2
              have NO := Hid.in no
              clear no
              by_cases hv0 : v < 0
              · go_wp2
                go_ret
                exact retW_no (NO.out (by simp [scanStep, hv0])) HN.out
              by_cases hv1 : (n0 : Int) ≤ v
              · go_wp2
                go_ret
                exact retW_no (NO.out (by simp [scanStep, hv1])) HN.out
              by_cases hv2 : v = t
              · subst hv2
                have RR : Hid (scan n0 (os.take (k + 1)) = some (t + 1)) := by
                  refine Hid.in ?_
                  rw [RS.out]
                  simp [scanStep, hv0, hv1]
                go_wp2
                go_round
                case rel => exact ⟨k + 1, t + 1, by omega, by omega, by go_num, by go_num, RR.out⟩
                case measure => simp [intOf]; omega
              have hv2b : (v == (t : Int)) = false := beq_eq_false_iff_ne.2 hv2
              by_cases hv3 : (t : Int) < v
              · have NN := NO.out (by simp [scanStep, hv0, hv1, hv2, hv3])
                have N2 := Hid.in NN
                clear NN hv2
                go_wp2
                go_ret
                exact retW_no N2.out HN.out
              have RR : Hid (scan n0 (os.take (k + 1)) = some t) := by
                refine Hid.in ?_
                rw [RS.out]
                simp [scanStep, hv0, hv1, hv2, hv3]
              clear hv2
              go_wp2
              go_round
              case rel => exact ⟨k + 1, t, by omega, by omega, by go_num, by go_num, RR.out⟩
              case measure => simp [intOf]; omega
          · clear h1
            have SF : Hid (scan n0 os = some t) := by
              have := SC.out
              rw [List.take_of_length_le (by have := L1.out; omega)] at this
              exact this
            by_cases ht : t = n0
            · have htb : ((t : Int) == (n0 : Int)) = true := beq_iff_eq.2 (by omega)
              have HT := Hid.in ht
              clear ht
              have hlen := fun ty => MSet.len HM1.out ty
              go_wp2
              go_ret
              exact ⟨⟨_, rfl, wf_end ND.out L0.out L1.out SF.out HT.out⟩, HN.out⟩
            · have htb : ((t : Int) == (n0 : Int)) = false := beq_eq_false_iff_ne.2 (by omega)
              go_wp2
              go_ret
              exact retW_no (fun h => by
                have h2 := h.2.1
                rw [L0.out, SF.out] at h2
                injection h2 with h2
                exact ht h2) HN.out
end Go.Proofs.Qxb6603923aMods
