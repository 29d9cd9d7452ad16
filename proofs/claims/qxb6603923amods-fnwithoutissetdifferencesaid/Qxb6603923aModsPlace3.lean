/-
  (*placement).add and ZZPlacementAdd.
-/
import Derived.Test.Qxb6603923aModsPlace2
import Derived.Laws.BytesArg
import Derived.Deep.QuietTactic
import Derived.BigQuiet
import Derived.RegionTactic
namespace Go.Proofs.Qxb6603923aMods
open Go.RowKit Go.Maps

theorem run_conv0 (w : World) (p : Option Addr) (c : Nat) : (convert 40 9 (.slice p 0 c)).run Trym.prog w = .ok (.string ByteArray.empty) w := by
  rw [run_convert_bytes_string w 40 9 5 _ 0 c Trym.underlying40 Trym.underlying5 Trym.underlying9]
  cases p <;> simp [Conv.bytesToString, loadCells]
  all_goals rfl

theorem run_conv {w : World} {a : Option Addr} {n c : Nat} {zs : List Int} (h : Row w a n (intV .u8 zs)) (hl : zs.length = n) : (convert 40 9 (.slice a n c)).run Trym.prog w = .ok (.string (strOfNums zs)) w := by
  rcases h with h | ⟨b, off, rfl, hc⟩
  · obtain rfl : n = 0 := by omega
    have : zs = [] := List.length_eq_zero_iff.1 hl
    subst this
    exact run_conv0 w a c
  · exact run_convert_bytes_arg w 40 5 Trym.underlying40 Trym.underlying5 b off n c zs hl hc 9 Trym.underlying9

/-- A row that lies below block B. -/
def RowB (B : Nat) (w : World) (a : Option Addr) (n : Nat) (f : Nat → Value) : Prop :=
  n ≤ 0 ∨ ∃ b off, a = some ⟨b, off, none⟩ ∧ b < B ∧ ∀ j, j < n → w.cell? ⟨b, off + j, none⟩ = some (f j)
theorem RowB.row {B : Nat} {w : World} {a : Option Addr} {n : Nat} {f : Nat → Value} (h : RowB B w a n f) : Row w a n f := by
  rcases h with h | ⟨b, off, e, _, hc⟩
  · exact .inl h
  · exact .inr ⟨b, off, e, hc⟩
theorem RowB.below {B : Nat} {w w' : World} {a : Option Addr} {n : Nat} {f : Nat → Value} (h : RowB B w a n f) (hb : Below B w w') : RowB B w' a n f := by
  rcases h with h | ⟨b, off, e, hB, hc⟩
  · exact .inl h
  · exact .inr ⟨b, off, e, hB, fun j hj => (hb.cell (by exact hB)).trans (hc j hj)⟩
theorem Row.toB {w : World} {a : Option Addr} {n : Nat} {f : Nat → Value} (h : Row w a n f) {B : Nat} (hB : w.heap.size ≤ B) : RowB B w a n f := by
  rcases h with h | ⟨b, off, e, hc⟩
  · exact .inl h
  · by_cases hn : n ≤ 0
    · exact .inl hn
    · exact .inr ⟨b, off, e, by have := cell_lt (hc 0 (by omega)); simp at this; omega, hc⟩

/-- The placement's three cells at block pb, and what they lead to. -/
structure Pl (w : World) (B pb : Nat) (v0 v1 : Value) (r : Option Nat) (m : Nat) (ns : List ByteArray) (os : List Int) (ks : List ByteArray) : Prop where
  cells : w.heap[pb]? = some (.cells #[v0, v1, .map r] 64 (0, 0))
  nodes : w.ownsRow B 9 1 v0 ns.length (ns.map Value.string)
  order : w.ownsRow B 3 1 v1 os.length (os.map (Value.int .i64))
  keys : MSet w r m ks
  kb : ∀ b, r = some b → B ≤ b

theorem Pl.cell0 {w : World} {B pb : Nat} {v0 v1 : Value} {r : Option Nat} {m : Nat} {ns : List ByteArray} {os : List Int} {ks : List ByteArray} (h : Pl w B pb v0 v1 r m ns os ks) : w.cell? ⟨pb, 0, none⟩ = some v0 := by
  simp [World.cell?, h.cells]
theorem Pl.cell1 {w : World} {B pb : Nat} {v0 v1 : Value} {r : Option Nat} {m : Nat} {ns : List ByteArray} {os : List Int} {ks : List ByteArray} (h : Pl w B pb v0 v1 r m ns os ks) : w.cell? ⟨pb, 1, none⟩ = some v1 := by
  simp [World.cell?, h.cells]
theorem Pl.cell2 {w : World} {B pb : Nat} {v0 v1 : Value} {r : Option Nat} {m : Nat} {ns : List ByteArray} {os : List Int} {ks : List ByteArray} (h : Pl w B pb v0 v1 r m ns os ks) : w.cell? ⟨pb, 2, none⟩ = some (.map r) := by
  simp [World.cell?, h.cells]

theorem Pl.drewN {w : World} {B pb : Nat} {v0 v1 : Value} {r : Option Nat} {m : Nat} {ns : List ByteArray} {os : List Int} {ks : List ByteArray} (h : Pl w B pb v0 v1 r m ns os ks) (nq : Nat) : Pl (w.drewN nq) B pb v0 v1 r m ns os ks := ⟨h.cells, h.nodes, h.order, h.keys, h.kb⟩

theorem own_ne {w : World} {B : Nat} {e : TypeId} {v : Value} {n : Nat} {xs : List Value} (h : w.ownsRow B e 1 v n xs) {b : Nat} {o : Obj} (hb : w.heap[b]? = some o) (hne : ∀ cur, o ≠ .cells cur e (0, 0)) : v.ownBlock ≠ some b := by
  rcases h.2 with ⟨rfl, _⟩ | ⟨g, cap, cur, rfl, _, hg, _⟩
  · simp [Value.ownBlock]
  · simp only [Value.ownBlock, ne_eq, Option.some.injEq]
    intro e1
    subst e1
    rw [hb] at hg
    exact hne cur (Option.some.inj hg)

section
variable {w w' : World} {B pb : Nat} {v0 v1 : Value} {r : Option Nat} {m : Nat} {ns : List ByteArray} {os : List Int} {ks : List ByteArray}

theorem Pl.ne0 (h : Pl w B pb v0 v1 r m ns os ks) : v0.ownBlock ≠ some pb := own_ne h.nodes h.cells (by simp)
theorem Pl.ne1 (h : Pl w B pb v0 v1 r m ns os ks) : v1.ownBlock ≠ some pb := own_ne h.order h.cells (by simp)
theorem Pl.ner (h : Pl w B pb v0 v1 r m ns os ks) {b : Nat} (hr : r = some b) : ∃ o, w.heap[b]? = some o ∧ ∀ cur t z, o ≠ .cells cur t z := by
  rcases h.keys with ⟨e, _⟩ | ⟨b', e, hs⟩
  · rw [e] at hr; cases hr
  · rw [e] at hr
    cases hr
    obtain ⟨es, clock, hb, _⟩ := hs
    exact ⟨_, hb, by simp⟩
theorem Pl.nerp (h : Pl w B pb v0 v1 r m ns os ks) {b : Nat} (hr : r = some b) : b ≠ pb := by
  obtain ⟨o, ho, hne⟩ := h.ner hr
  intro e
  rw [e, h.cells] at ho
  exact hne _ _ _ (Option.some.inj ho).symm
theorem Pl.ne01 (h : Pl w B pb v0 v1 r m ns os ks) : v0.ownBlock = none ∨ v0.ownBlock ≠ v1.ownBlock := by
  rcases h.order.2 with ⟨e, _⟩ | ⟨g, cap, cur, rfl, _, hg, _⟩
  · subst e
    cases hv : v0.ownBlock
    · exact .inl rfl
    · exact .inr (by simp [Value.ownBlock])
  · exact .inr (own_ne h.nodes hg (by simp))

theorem Pl.kept (h : Pl w B pb v0 v1 r m ns os ks) {row : Option Nat} (hg : w.grownBy w' row) (hpb : some pb ≠ row) (h0 : v0.ownBlock = none ∨ v0.ownBlock ≠ row) (h1 : v1.ownBlock = none ∨ v1.ownBlock ≠ row) (hr : ∀ b, r = some b → some b ≠ row) :
    Pl w' B pb v0 v1 r m ns os ks := by
  refine ⟨(hg.block pb (lt_of_block h.cells) hpb).trans h.cells, h.nodes.kept hg h0, h.order.kept hg h1, ?_, h.kb⟩
  rcases h.keys with e | ⟨b, e, hs⟩
  · exact .inl e
  · exact .inr ⟨b, e, World.ownsMap.kept hs hg (hr b e)⟩

theorem Pl.alloc (h : Pl w B pb v0 v1 r m ns os ks) (o : Obj) : Pl (w.alloc o) B pb v0 v1 r m ns os ks :=
  h.kept (World.grownBy_alloc w o none) (by simp) (by cases v0.ownBlock <;> simp) (by cases v1.ownBlock <;> simp) (by simp)

theorem SetM.setCell {b n : Nat} {acc : List ByteArray} (h : SetM w b n acc) {a : Addr} (ha : b ≠ a.block) (u : Value) : SetM (w.setCell a u) b n acc := World.ownsMap.setCell h ha u
theorem MSet.setCell {acc : List ByteArray} {n : Nat} (h : MSet w r n acc) {a : Addr} (ha : ∀ b, r = some b → b ≠ a.block) (u : Value) : MSet (w.setCell a u) r n acc := by
  rcases h with e | ⟨b, e, hs⟩
  · exact .inl e
  · exact .inr ⟨b, e, hs.setCell (ha b e) u⟩

theorem Pl.setNodes (h : Pl w B pb v0 v1 r m ns os ks) (hg : w.grownBy w' v0.ownBlock) {v : Value} {node : ByteArray} (hown : w'.ownsRow B 9 1 v (ns.length + 1) (ns.map Value.string ++ [.string node])) :
    Pl (w'.setCell ⟨pb, 0, none⟩ v) B pb v v1 r m (ns ++ [node]) os ks := by
  have hc : w'.heap[pb]? = some (.cells #[v0, v1, .map r] 64 (0, 0)) := (hg.block pb (lt_of_block h.cells) h.ne0.symm).trans h.cells
  have hv1 : w'.ownsRow B 3 1 v1 os.length (os.map (Value.int .i64)) := h.order.kept hg (by
    rcases h.ne01 with e | e
    · rw [e]; cases v1.ownBlock <;> simp
    · exact .inr e.symm)
  refine ⟨by rw [heap_setCell_same w' pb 0 _ 64 v hc]; rfl, ?_, ownsRow_setCell_other hv1 (own_ne hv1 hc (by simp)) _, ?_, h.kb⟩
  · have := ownsRow_setCell_other hown (a := ⟨pb, 0, none⟩) (own_ne hown hc (by simp)) v
    simpa using this
  · refine MSet.setCell ?_ (fun b hb => h.nerp hb) v
    rcases h.keys with e | ⟨b, e, hs⟩
    · exact .inl e
    · refine .inr ⟨b, e, World.ownsMap.kept hs hg ?_⟩
      obtain ⟨o, ho, hne⟩ := h.ner e
      exact (own_ne h.nodes ho (fun cur => hne cur _ _)).symm

theorem Pl.setOrder (h : Pl w B pb v0 v1 r m ns os ks) (hg : w.grownBy w' v1.ownBlock) {v : Value} {z : Int} (hown : w'.ownsRow B 3 1 v (os.length + 1) (os.map (Value.int .i64) ++ [.int .i64 z])) :
    Pl (w'.setCell ⟨pb, 1, none⟩ v) B pb v0 v r m ns (os ++ [z]) ks := by
  have hc : w'.heap[pb]? = some (.cells #[v0, v1, .map r] 64 (0, 0)) := (hg.block pb (lt_of_block h.cells) h.ne1.symm).trans h.cells
  have hv0 : w'.ownsRow B 9 1 v0 ns.length (ns.map Value.string) := h.nodes.kept hg h.ne01
  refine ⟨by rw [heap_setCell_same w' pb 1 _ 64 v hc]; rfl, ownsRow_setCell_other hv0 (own_ne hv0 hc (by simp)) _, ?_, ?_, h.kb⟩
  · have := ownsRow_setCell_other hown (a := ⟨pb, 1, none⟩) (own_ne hown hc (by simp)) v
    simpa using this
  · refine MSet.setCell ?_ (fun b hb => h.nerp hb) v
    rcases h.keys with e | ⟨b, e, hs⟩
    · exact .inl e
    · refine .inr ⟨b, e, World.ownsMap.kept hs hg ?_⟩
      obtain ⟨o, ho, hne⟩ := h.ner e
      exact (own_ne h.order ho (fun cur => hne cur _ _)).symm

theorem Pl.after1 (h : Pl w B pb v0 v1 r m ns os ks) {o : Obj} (hg : (w.alloc o).grownBy w' v1.ownBlock) : w'.cell? ⟨pb, 1, none⟩ = some v1 ∧ w'.frozen? ⟨pb, 1, none⟩ = false := by
  have h1 := h.alloc o
  have hc : w'.heap[pb]? = some (.cells #[v0, v1, .map r] 64 (0, 0)) := (hg.block pb (lt_of_block h1.cells) h1.ne1.symm).trans h1.cells
  simp [World.cell?, World.frozen?, hc]
theorem Pl.after0 (h : Pl w B pb v0 v1 r m ns os ks) {o : Obj} (hg : (w.alloc o).grownBy w' v0.ownBlock) : w'.cell? ⟨pb, 0, none⟩ = some v0 ∧ w'.frozen? ⟨pb, 0, none⟩ = false ∧ w'.cell? ⟨pb, 1, none⟩ = some v1 ∧ w'.frozen? ⟨pb, 1, none⟩ = false := by
  have h1 := h.alloc o
  have hc : w'.heap[pb]? = some (.cells #[v0, v1, .map r] 64 (0, 0)) := (hg.block pb (lt_of_block h1.cells) h1.ne0.symm).trans h1.cells
  simp [World.cell?, World.frozen?, hc]

theorem Pl.turned {b m' : Nat} {ks' : List ByteArray} (h : Pl w B pb v0 v1 (some b) m ns os ks) (ht : w.mapTurned w' b) (hs : SetM w' b m' ks') : Pl w' B pb v0 v1 (some b) m' ns os ks' := by
  have hg := ht.grown
  obtain ⟨o, ho, hne⟩ := h.ner rfl
  exact ⟨(hg.block pb (lt_of_block h.cells) (fun e => h.nerp rfl (Option.some.inj e).symm)).trans h.cells, h.nodes.kept hg (.inr (own_ne h.nodes ho (fun cur => hne cur _ _))), h.order.kept hg (.inr (own_ne h.order ho (fun cur => hne cur _ _))), .inr ⟨b, rfl, hs⟩, h.kb⟩

/-- Where the placement's map is nil: a new one is laid and stored. -/
theorem Pl.freshMap (h : Pl w B pb v0 v1 none m ns os ks) (hB : B ≤ w.heap.size) : Pl ((w.alloc (.map #[] 0)).setCell ⟨pb, 2, none⟩ (.map (some w.heap.size))) B pb v0 v1 (some w.heap.size) 0 ns os [] := by
  have h1 := h.alloc (.map #[] 0)
  have hlt := lt_of_block h.cells
  refine ⟨by rw [heap_setCell_same _ pb 2 _ 64 _ h1.cells]; rfl, ownsRow_setCell_other h1.nodes h1.ne0 _, ownsRow_setCell_other h1.order h1.ne1 _, .inr ⟨_, rfl, (SetM.made w).setCell (by simp; omega) _⟩, fun b hb => by cases hb; exact hB⟩

theorem Pl.frozen (h : Pl w B pb v0 v1 r m ns os ks) (j : Nat) : w.frozen? ⟨pb, j, none⟩ = false := by simp [World.frozen?, h.cells]
end

/-- A slice value that owns its row, as one that can be read. -/
theorem row_of_owns {w : World} {B : Nat} {e : TypeId} {v : Value} {n : Nat} {α : Type} {xs : List α} {f : α → Value} (d : α) (h : w.ownsRow B e 1 v n (xs.map f)) : ∃ a c, v = .slice a n c ∧ Row w a n (fun j => f (xs.getD j d)) := by
  rcases h.2 with ⟨rfl, rfl⟩ | ⟨g, cap, cur, rfl, _⟩
  · exact ⟨none, 0, rfl, .inl (Nat.le_refl _)⟩
  · refine ⟨_, cap, rfl, .inr ⟨g, 0, rfl, fun j hj => ?_⟩⟩
    have hl := h.1
    simp at hl
    rw [Nat.zero_add, h.cellAt j (by omega)]
    simp [List.getD, show j < xs.length by omega]
theorem owns_some {w : World} {B : Nat} {e : TypeId} {v : Value} {n : Nat} {xs : List Value} (h : w.ownsRow B e 1 v (n + 1) xs) : ∃ g cap, v = .slice (some ⟨g, 0, none⟩) (n + 1) cap := by
  rcases h.2 with ⟨_, h⟩ | ⟨g, cap, cur, rfl, _⟩
  · omega
  · exact ⟨g, cap, rfl⟩

def RetP (w : World) (B pb : Nat) (ns : List ByteArray) (os : List Int) (ks : List ByteArray) (m : Nat) (e : Ending) (w' : World) : Prop :=
  e = .returned (.tuple #[]) ∧ (∃ v0 v1 r, Pl w' B pb v0 v1 r m ns os ks) ∧ Below B w w'

set_option maxHeartbeats 400000 in
theorem add_old (B pb : Nat) (v0 v1 : Value) (r : Option Nat) (m : Nat) (ns : List ByteArray) (os : List Int) (ks : List ByteArray) (node : ByteArray) (ka : Option Addr) (kn kc : Nat) (kz : List Int) (w : World)
    (h : Pl w B pb v0 v1 r m ns os ks) (hkB : RowB B w ka kn (intV .u8 kz)) (hkl : kz.length = kn) (hkm : kn ≤ maxLen) (hold : memB ks (strOfNums kz) = true) :
    Calls Trym.prog 35 #[.pointer (some ⟨pb, 0, none⟩), .string node, .slice ka kn kc] w (RetP w B pb ns os ks m) := by
  have hk := hkB.row
  have hc2 := h.cell2
  have hconv : ∀ nq, (convert 40 9 (.slice ka kn kc)).run Trym.prog (w.drewN nq) = .ok (.string (strOfNums kz)) (w.drewN nq) := fun nq => run_conv (w := w.drewN nq) hk hkl
  have hlook : ∀ nq, (Instr.lookup 44 (.map r) (.string (strOfNums kz)) false).run Trym.prog (w.drewN nq) = .ok (.bool true) (w.drewN nq) := fun nq => by
    rw [← hold]; exact MSet.look (w := w.drewN nq) h.keys (by rw [strOfNums_size]; omega)
  have HP := Hid.in h
  clear h hk hkB hold
  generalize strOfNums kz = K at *
  go_enter Trym.func35, Trym.ntmps35
  go_wp2
  go_quiet (fail)
  go_wp2
  go_end0
  exact ⟨rfl, ⟨v0, v1, r, HP.out.drewN nq⟩, ⟨rfl, rfl, rfl, Nat.le_refl _, fun _ _ => rfl⟩⟩

def Pause (p : Prop) : Prop := p
theorem pause {p : Prop} (h : Pause p) : p := h
theorem strs_oneCell (s : ByteArray) : ∀ u ∈ [Value.string s], u.oneCell' = true := by
  intro u hu
  simp at hu
  subst hu
  rfl
theorem set_of {w : World} {b m : Nat} {ks : List ByteArray} (h : MSet w (some b) m ks) : SetM w b m ks := by
  rcases h with ⟨h, _⟩ | ⟨b', h, hs⟩
  · cases h
  · cases h; exact hs
theorem row_of_owns' {w : World} {B : Nat} {e : TypeId} {a : Option Addr} {n c : Nat} {α : Type} {xs : List α} {f : α → Value} (d : α) (h : w.ownsRow B e 1 (.slice a n c) n (xs.map f)) : Row w a n (fun j => f (xs.getD j d)) := by
  obtain ⟨a', c', e, hr⟩ := row_of_owns d h
  cases e
  exact hr

/-- What add makes of the nodes and of the order at a key not yet written. -/
def AddRel (ns : List ByteArray) (os : List Int) (node : ByteArray) (ns' : List ByteArray) (os' : List Int) : Prop :=
  (∃ i : Nat, i < ns.length ∧ ns.getD i ByteArray.empty = node ∧ ns' = ns ∧ os' = os ++ [(i : Int)]) ∨
  ((∀ j, j < ns.length → ns.getD j ByteArray.empty ≠ node) ∧ ns' = ns ++ [node] ∧ os' = os ++ [(ns.length : Int)])
def RetA (w : World) (B pb : Nat) (ns : List ByteArray) (os : List Int) (node : ByteArray) (ks : List ByteArray) (m : Nat) (e : Ending) (w' : World) : Prop :=
  e = .returned (.tuple #[]) ∧ (∃ ns' os' v0 v1 r, AddRel ns os node ns' os' ∧ Pl w' B pb v0 v1 r m ns' os' ks) ∧ Below B w w'

theorem below_grown {B : Nat} {w w1 w2 : World} {v : Value} {e : TypeId} {n : Nat} {xs : List Value} (h : Below B w w1) (hg : w1.grownBy w2 v.ownBlock) (ho : w1.ownsRow B e 1 v n xs) (hB : B ≤ w.heap.size) : Below B w w2 :=
  h.grown hg (Nat.le_trans hB h.size) (fun k hk => (ho.lt k hk).1)

set_option maxHeartbeats 1000000 in
theorem add_new_some (B pb b : Nat) (v0 v1 : Value) (m : Nat) (ns : List ByteArray) (os : List Int) (ks : List ByteArray) (node : ByteArray) (ka : Option Addr) (kn kc : Nat) (kz : List Int) (w : World)
    (h : Pl w B pb v0 v1 (some b) m ns os ks) (hB : B ≤ w.heap.size) (hBp : B ≤ pb) (hkB : RowB B w ka kn (intV .u8 kz)) (hkl : kz.length = kn) (hkm : kn ≤ maxLen) (hm : m < maxLen) (hold : memB ks (strOfNums kz) = false) (hn0 : ns.length ≤ 4000000) (hn1 : os.length ≤ 4000000) :
    Calls Trym.prog 35 #[.pointer (some ⟨pb, 0, none⟩), .string node, .slice ka kn kc] w (RetA w B pb ns os node (ks ++ [strOfNums kz]) (m + 1)) := by
  have hk := hkB.row
  obtain ⟨i9, i9a, i9b, i9c, i9d⟩ := info_parts Trym.info9
  obtain ⟨i3, i3a, i3b, i3c, i3d⟩ := info_parts Trym.info3
  obtain ⟨a0, c0, rfl, hr0⟩ := row_of_owns ByteArray.empty h.nodes
  obtain ⟨a1, c1, rfl, hr1⟩ := row_of_owns 0 h.order
  have hc2 := h.cell2
  have hconv : ∀ nq, (convert 40 9 (.slice ka kn kc)).run Trym.prog (w.drewN nq) = .ok (.string (strOfNums kz)) (w.drewN nq) := fun nq => run_conv (w := w.drewN nq) hk hkl
  have hlook : ∀ nq, (Instr.lookup 44 (.map (some b)) (.string (strOfNums kz)) false).run Trym.prog (w.drewN nq) = .ok (.bool false) (w.drewN nq) := fun nq => by
    have := MSet.look (w := w.drewN nq) h.keys (s := strOfNums kz) (by rw [strOfNums_size, hkl]; exact hkm)
    rw [hold] at this; exact this
  have HS : Hid (∀ nq, ∃ w', (Instr.mapUpdate 44 (.map (some b)) (.string (strOfNums kz)) (.bool true)).run Trym.prog (w.drewN (nq + 1)) = .ok () w' ∧ SetM w' b (m + 1) (ks ++ [strOfNums kz]) ∧ (w.drewN (nq + 1)).mapTurned w' b) := fun nq =>
    SetM.update (w := (w.drewN (nq + 1))) (set_of h.keys) hm (by rw [strOfNums_size, hkl]; exact hkm)
  have hnil := fun (w : World) (r : Option Nat) => run_eql_map_nil (P := Trym.prog) w 44 9 4 r Trym.underlying44
  have HP := Hid.in h
  clear h hk hkB hold hr0 hr1
  generalize strOfNums kz = K at *
  go_enter Trym.func35, Trym.ntmps35
  go_wp2
  go_quiet (fail)
  go_wp2
  obtain ⟨w3, hrun3, hset3, hturn3⟩ := HS.out nq
  go_region
  have hP3 := (HP.out.drewN (nq + 1)).turned hturn3 hset3
  have hB3 : Below B w w3 := below_turned (w := w) (wr := w.drewN (nq + 1)) ⟨rfl, rfl, rfl, Nat.le_refl _, fun _ _ => rfl⟩ hturn3 (HP.out.kb b rfl) hB
  clear hrun3 hset3 hturn3 hconv hlook HS hc2 hnil
  have HB3 := Hid.in hB3
  have HP3 := Hid.in hP3
  have hz0 := hP3.cell0
  clear hB3 hP3 HP
  go_wp2_with fail
  refine (index_any a0 ns.length c0 ns node w3 (row_of_owns' ByteArray.empty HP3.out.nodes) rfl (by omega)).mono ?_
  rintro e w4 ⟨⟨z, rfl, hz⟩, rfl⟩
  have hz1 := HP3.out.cell1
  rcases hz with ⟨rfl, hno⟩ | ⟨i, hi, rfl, hat⟩
  · have HA := Hid.in hno
    have hsz : B ≤ w4.heap.size := Nat.le_trans hB HB3.out.size
    clear hno
    go_wp2_with (first
      | (at_builtin; refine wpList_append_own _ rfl (.tmp 46) (.tmp 48) 38 rfl B 9 i9 (.string ByteArray.empty) 1 16 Trym.underlying38 i9a i9b i9c i9d rfl (by decide) _ _ _ rfl (HP3.out.nodes.alloc _) ⟨w4.heap.size, 0, none⟩ 1 1 [.string node] rfl rfl (cell_one_new _ _ _) (strs_oneCell node) (by unfold maxLen; omega) (by omega) (by simp; omega) ?_; intro v5 w5 hown5 hgrow5 hx5; clear hx5; obtain ⟨g5, cap5, hv5⟩ := owns_some hown5; obtain ⟨hc5, hf5, hd5, hg5⟩ := HP3.out.after0 hgrow5; rw [hv5])
      | (at_builtin; refine pause ?_))
    have hP6 := (HP3.out.alloc (.cells #[.string node] 9)).setNodes hgrow5 hown5
    have hB6 : Below B w (w5.setCell ⟨pb, 0, none⟩ v5) := (below_grown (HB3.out.alloc hsz _) hgrow5 (HP3.out.nodes.alloc _) hB).setCell hBp _
    rw [hv5] at hP6 hB6
    clear hown5 hgrow5 hc5 hf5 hd5 hg5 hz0 hz1
    have hse : w5.heap.size = (w5.setCell ⟨pb, 0, none⟩ (.slice (some ⟨g5, 0, none⟩) (ns.length + 1) cap5)).heap.size := by simp
    generalize w5.setCell ⟨pb, 0, none⟩ (.slice (some ⟨g5, 0, none⟩) (ns.length + 1) cap5) = w6 at *
    unfold Pause
    rw [hse]
    clear hse
    have hs6 : B ≤ w6.heap.size := Nat.le_trans hB hB6.size
    have HP6 := Hid.in hP6
    have HB6 := Hid.in hB6
    clear hP6 hB6
    go_wp2_with (at_builtin; (refine wpList_append_own _ rfl _ _ 39 rfl B 3 i3 (.int .i64 0) 1 8 Trym.underlying39 i3a i3b i3c i3d rfl (by decide) _ _ _ rfl (HP6.out.order.alloc _) ⟨w6.heap.size, 0, none⟩ 1 1 [.int .i64 (ns.length : Int)] rfl rfl (cell_one_new _ _ _) (ints_oneCell .i64 [(ns.length : Int)]) (by unfold maxLen; omega) (by omega) (by simp; omega) ?_; intro v7 w7 hown7 hgrow7 hx7; clear hx7; obtain ⟨g7, cap7, hv7⟩ := owns_some hown7; obtain ⟨hc7, hf7⟩ := HP6.out.after1 hgrow7; rw [hv7]))
    have hP8 := (HP6.out.alloc (.cells #[.int .i64 (ns.length : Int)] 3)).setOrder hgrow7 hown7
    rw [hv7] at hP8
    go_end0
    exact ⟨rfl, ⟨_, _, _, _, _, .inr ⟨HA.out, rfl, rfl⟩, hP8⟩, (below_grown (HB6.out.alloc hs6 _) hgrow7 (HP6.out.order.alloc _) hB).setCell hBp _⟩
  · have HA : Hid (ns.getD i ByteArray.empty = node) := hat
    have hsz : B ≤ w4.heap.size := Nat.le_trans hB HB3.out.size
    clear hat
    go_wp2_with (at_builtin; refine wpList_append_own _ rfl _ _ 39 rfl B 3 i3 (.int .i64 0) 1 8 Trym.underlying39 i3a i3b i3c i3d rfl (by decide) _ _ _ rfl (HP3.out.order.alloc _) ⟨w4.heap.size, 0, none⟩ 1 1 [.int .i64 (i : Int)] rfl rfl (cell_one_new _ _ _) (ints_oneCell .i64 [(i : Int)]) (by unfold maxLen; omega) (by omega) (by simp; omega) ?_; intro v5 w5 hown5 hgrow5 hx5; clear hx5; obtain ⟨g5, cap5, hv5⟩ := owns_some hown5; obtain ⟨hc5, hf5⟩ := HP3.out.after1 hgrow5; rw [hv5])
    have hP6 := (HP3.out.alloc (.cells #[.int .i64 (i : Int)] 3)).setOrder hgrow5 hown5
    rw [hv5] at hP6
    go_end0
    exact ⟨rfl, ⟨ns, _, _, _, _, .inl ⟨i, hi, HA.out, rfl, rfl⟩, hP6⟩, (below_grown (HB3.out.alloc hsz _) hgrow5 (HP3.out.order.alloc _) hB).setCell hBp _⟩

set_option maxHeartbeats 1000000 in
theorem add_new_none (B pb : Nat) (v0 v1 : Value) (m : Nat) (ns : List ByteArray) (os : List Int) (ks : List ByteArray) (node : ByteArray) (ka : Option Addr) (kn kc : Nat) (kz : List Int) (w : World)
    (h : Pl w B pb v0 v1 none m ns os ks) (hB : B ≤ w.heap.size) (hBp : B ≤ pb) (hkB : RowB B w ka kn (intV .u8 kz)) (hkl : kz.length = kn) (hkm : kn ≤ maxLen) (hn0 : ns.length ≤ 4000000) (hn1 : os.length ≤ 4000000) :
    Calls Trym.prog 35 #[.pointer (some ⟨pb, 0, none⟩), .string node, .slice ka kn kc] w (RetA w B pb ns os node (ks ++ [strOfNums kz]) 1) := by
  have hk := hkB.row
  obtain ⟨i9, i9a, i9b, i9c, i9d⟩ := info_parts Trym.info9
  obtain ⟨i3, i3a, i3b, i3c, i3d⟩ := info_parts Trym.info3
  obtain ⟨a0, c0, rfl, hr0⟩ := row_of_owns ByteArray.empty h.nodes
  obtain ⟨a1, c1, rfl, hr1⟩ := row_of_owns 0 h.order
  obtain rfl : ks = [] := by
    rcases h.keys with ⟨_, e⟩ | ⟨b, e, _⟩
    · exact e
    · cases e
  have hc2 := h.cell2
  have hcA : ∀ nq, ((w.drewN nq).alloc (.map #[] 0)).cell? ⟨pb, 2, none⟩ = some (.map none) := fun nq => ((h.drewN nq).alloc _).cell2
  have hfA : ∀ nq, ((w.drewN nq).alloc (.map #[] 0)).frozen? ⟨pb, 2, none⟩ = false := fun nq => ((h.drewN nq).alloc _).frozen 2
  have hpb : pb < w.heap.size := lt_of_block h.cells
  have hconv : ∀ nq, (convert 40 9 (.slice ka kn kc)).run Trym.prog (w.drewN nq) = .ok (.string (strOfNums kz)) (w.drewN nq) := fun nq => run_conv (w := w.drewN nq) hk hkl
  have hlook : ∀ nq, (Instr.lookup 44 (.map none) (.string (strOfNums kz)) false).run Trym.prog (w.drewN nq) = .ok (.bool false) (w.drewN nq) := fun nq => by
    exact MSet.look (w := w.drewN nq) h.keys (s := strOfNums kz) (by rw [strOfNums_size, hkl]; exact hkm)
  have hnil := fun (w : World) (r : Option Nat) => run_eql_map_nil (P := Trym.prog) w 44 9 4 r Trym.underlying44
  have hmm := @run_makeMap Trym.prog
  have HP := Hid.in h
  clear h hr0 hr1
  have HKB := Hid.in hkB
  clear hk hkB
  generalize hKK : strOfNums kz = K at *
  have HK := Hid.in hKK
  clear hKK
  go_enter Trym.func35, Trym.ntmps35
  go_wp2
  go_quiet (fail)
  go_wp2
  have hP2 := (HP.out.drewN nq).freshMap hB
  have hB2 : Below B w (((w.drewN nq).alloc (.map #[] 0)).setCell ⟨pb, 2, none⟩ (.map (some w.heap.size))) :=
    (Below.alloc (a := w) (w := w.drewN nq) ⟨rfl, rfl, rfl, Nat.le_refl _, fun _ _ => rfl⟩ hB _).setCell hBp _
  have hse : (w.drewN nq).heap.size = w.heap.size := rfl
  rw [hse] at hP2
  clear hse hc2 hcA hfA hconv hlook hpb HP
  have hk2 : Row (((w.drewN nq).alloc (.map #[] 0)).setCell ⟨pb, 2, none⟩ (.map (some w.heap.size))) ka kn (intV .u8 kz) := (HKB.out.below hB2).row
  generalize ((w.drewN nq).alloc (.map #[] 0)).setCell ⟨pb, 2, none⟩ (.map (some w.heap.size)) = w2 at *
  have hc22 := hP2.cell2
  have hconv2 : (convert 40 9 (.slice ka kn kc)).run Trym.prog w2.drew = .ok (.string K) w2.drew := by rw [← HK.out]; exact run_conv (w := w2.drew) hk2 hkl
  obtain ⟨w3, hrun3, hset3, hturn3⟩ := SetM.update (w := w2.drew) (set_of hP2.keys) (by decide) (s := K) (by rw [← HK.out, strOfNums_size, hkl]; exact hkm)
  have HP2 := Hid.in hP2
  have HB2 := Hid.in hB2
  clear hP2 hB2 hk2 HKB
  go_region
  have hP3 := (HP2.out.drewN 1).turned hturn3 hset3
  have hB3 : Below B w w3 := below_turned (w := w) (wr := w2.drew) HB2.out.drew hturn3 hB (Nat.le_trans hB HB2.out.size)
  clear hrun3 hset3 hturn3 hconv2 hc22 hnil hmm
  have HB3 := Hid.in hB3
  have HP3 := Hid.in hP3
  have hz0 := hP3.cell0
  clear hB3 hP3 HP2 HB2
  go_wp2_with fail
  refine (index_any a0 ns.length c0 ns node w3 (row_of_owns' ByteArray.empty HP3.out.nodes) rfl (by omega)).mono ?_
  rintro e w4 ⟨⟨z, rfl, hz⟩, rfl⟩
  have hz1 := HP3.out.cell1
  rcases hz with ⟨rfl, hno⟩ | ⟨i, hi, rfl, hat⟩
  · have HA := Hid.in hno
    have hsz : B ≤ w4.heap.size := Nat.le_trans hB HB3.out.size
    clear hno
    go_wp2_with (first
      | (at_builtin; refine wpList_append_own _ rfl (.tmp 46) (.tmp 48) 38 rfl B 9 i9 (.string ByteArray.empty) 1 16 Trym.underlying38 i9a i9b i9c i9d rfl (by decide) _ _ _ rfl (HP3.out.nodes.alloc _) ⟨w4.heap.size, 0, none⟩ 1 1 [.string node] rfl rfl (cell_one_new _ _ _) (strs_oneCell node) (by unfold maxLen; omega) (by omega) (by simp; omega) ?_; intro v5 w5 hown5 hgrow5 hx5; clear hx5; obtain ⟨g5, cap5, hv5⟩ := owns_some hown5; obtain ⟨hc5, hf5, hd5, hg5⟩ := HP3.out.after0 hgrow5; rw [hv5])
      | (at_builtin; refine pause ?_))
    have hP6 := (HP3.out.alloc (.cells #[.string node] 9)).setNodes hgrow5 hown5
    have hB6 : Below B w (w5.setCell ⟨pb, 0, none⟩ v5) := (below_grown (HB3.out.alloc hsz _) hgrow5 (HP3.out.nodes.alloc _) hB).setCell hBp _
    rw [hv5] at hP6 hB6
    clear hown5 hgrow5 hc5 hf5 hd5 hg5 hz0 hz1
    have hse : w5.heap.size = (w5.setCell ⟨pb, 0, none⟩ (.slice (some ⟨g5, 0, none⟩) (ns.length + 1) cap5)).heap.size := by simp
    generalize w5.setCell ⟨pb, 0, none⟩ (.slice (some ⟨g5, 0, none⟩) (ns.length + 1) cap5) = w6 at *
    unfold Pause
    rw [hse]
    clear hse
    have hs6 : B ≤ w6.heap.size := Nat.le_trans hB hB6.size
    have HP6 := Hid.in hP6
    have HB6 := Hid.in hB6
    clear hP6 hB6
    go_wp2_with (at_builtin; (refine wpList_append_own _ rfl _ _ 39 rfl B 3 i3 (.int .i64 0) 1 8 Trym.underlying39 i3a i3b i3c i3d rfl (by decide) _ _ _ rfl (HP6.out.order.alloc _) ⟨w6.heap.size, 0, none⟩ 1 1 [.int .i64 (ns.length : Int)] rfl rfl (cell_one_new _ _ _) (ints_oneCell .i64 [(ns.length : Int)]) (by unfold maxLen; omega) (by omega) (by simp; omega) ?_; intro v7 w7 hown7 hgrow7 hx7; clear hx7; obtain ⟨g7, cap7, hv7⟩ := owns_some hown7; obtain ⟨hc7, hf7⟩ := HP6.out.after1 hgrow7; rw [hv7]))
    have hP8 := (HP6.out.alloc (.cells #[.int .i64 (ns.length : Int)] 3)).setOrder hgrow7 hown7
    rw [hv7] at hP8
    go_end0
    exact ⟨rfl, ⟨_, _, _, _, _, .inr ⟨HA.out, rfl, rfl⟩, hP8⟩, (below_grown (HB6.out.alloc hs6 _) hgrow7 (HP6.out.order.alloc _) hB).setCell hBp _⟩
  · have HA : Hid (ns.getD i ByteArray.empty = node) := hat
    have hsz : B ≤ w4.heap.size := Nat.le_trans hB HB3.out.size
    clear hat
    go_wp2_with (at_builtin; refine wpList_append_own _ rfl _ _ 39 rfl B 3 i3 (.int .i64 0) 1 8 Trym.underlying39 i3a i3b i3c i3d rfl (by decide) _ _ _ rfl (HP3.out.order.alloc _) ⟨w4.heap.size, 0, none⟩ 1 1 [.int .i64 (i : Int)] rfl rfl (cell_one_new _ _ _) (ints_oneCell .i64 [(i : Int)]) (by unfold maxLen; omega) (by omega) (by simp; omega) ?_; intro v5 w5 hown5 hgrow5 hx5; clear hx5; obtain ⟨g5, cap5, hv5⟩ := owns_some hown5; obtain ⟨hc5, hf5⟩ := HP3.out.after1 hgrow5; rw [hv5])
    have hP6 := (HP3.out.alloc (.cells #[.int .i64 (i : Int)] 3)).setOrder hgrow5 hown5
    rw [hv5] at hP6
    go_end0
    exact ⟨rfl, ⟨ns, _, _, _, _, .inl ⟨i, hi, HA.out, rfl, rfl⟩, hP6⟩, (below_grown (HB3.out.alloc hsz _) hgrow5 (HP3.out.order.alloc _) hB).setCell hBp _⟩

/-! ### ZZPlacementAdd -/
/-- A placement handed over by its three values. -/
structure Pv (w : World) (B : Nat) (v0 v1 : Value) (r : Option Nat) (m : Nat) (ns : List ByteArray) (os : List Int) (ks : List ByteArray) : Prop where
  nodes : w.ownsRow B 9 1 v0 ns.length (ns.map Value.string)
  order : w.ownsRow B 3 1 v1 os.length (os.map (Value.int .i64))
  keys : MSet w r m ks
  kb : ∀ b, r = some b → B ≤ b

/-- What a call of add makes of nodes, order and keys. -/
def AddP (ns : List ByteArray) (os : List Int) (ks : List ByteArray) (node K : ByteArray) (ns' : List ByteArray) (os' : List Int) (ks' : List ByteArray) : Prop :=
  (memB ks K = true ∧ ns' = ns ∧ os' = os ∧ ks' = ks) ∨ (memB ks K = false ∧ AddRel ns os node ns' os' ∧ ks' = ks ++ [K])

def RetZ (w : World) (B : Nat) (ns : List ByteArray) (os : List Int) (ks : List ByteArray) (node K : ByteArray) (m : Nat) (e : Ending) (w' : World) : Prop :=
  ∃ v0 v1 r ns' os' ks', e = .returned (.tuple #[v0, v1, .map r]) ∧ AddP ns os ks node K ns' os' ks' ∧ Pv w' B v0 v1 r (m + 1) ns' os' ks' ∧ Below B w w'

theorem MSet.mono {w : World} {r : Option Nat} {m m' : Nat} {ks : List ByteArray} (h : MSet w r m ks) (hm : m ≤ m') : MSet w r m' ks := by
  rcases h with e | ⟨b, e, hs⟩
  · exact .inl e
  · exact .inr ⟨b, e, World.ownsMap.mono hs hm⟩

/-- add, all its ways in one. -/
theorem add_any (B pb : Nat) (v0 v1 : Value) (r : Option Nat) (m : Nat) (ns : List ByteArray) (os : List Int) (ks : List ByteArray) (node : ByteArray) (ka : Option Addr) (kn kc : Nat) (kz : List Int) (w : World)
    (h : Pl w B pb v0 v1 r m ns os ks) (hB : B ≤ w.heap.size) (hBp : B ≤ pb) (hkB : RowB B w ka kn (intV .u8 kz)) (hkl : kz.length = kn) (hkm : kn ≤ maxLen) (hm : m < maxLen) (hn0 : ns.length ≤ 4000000) (hn1 : os.length ≤ 4000000) :
    Calls Trym.prog 35 #[.pointer (some ⟨pb, 0, none⟩), .string node, .slice ka kn kc] w fun e w' => e = .returned (.tuple #[]) ∧ (∃ ns' os' ks' v0 v1 r, AddP ns os ks node (strOfNums kz) ns' os' ks' ∧ Pl w' B pb v0 v1 r (m + 1) ns' os' ks') ∧ Below B w w' := by
  cases hold : memB ks (strOfNums kz)
  · cases r with
    | none =>
      refine (add_new_none B pb v0 v1 m ns os ks node ka kn kc kz w h hB hBp hkB hkl hkm hn0 hn1).mono ?_
      rintro e w' ⟨rfl, ⟨ns', os', v0, v1, r, hr, hp⟩, hb⟩
      exact ⟨rfl, ⟨ns', os', _, v0, v1, r, .inr ⟨hold, hr, rfl⟩, ⟨hp.cells, hp.nodes, hp.order, hp.keys.mono (by omega), hp.kb⟩⟩, hb⟩
    | some b =>
      refine (add_new_some B pb b v0 v1 m ns os ks node ka kn kc kz w h hB hBp hkB hkl hkm hm hold hn0 hn1).mono ?_
      rintro e w' ⟨rfl, ⟨ns', os', v0, v1, r, hr, hp⟩, hb⟩
      exact ⟨rfl, ⟨ns', os', _, v0, v1, r, .inr ⟨hold, hr, rfl⟩, hp⟩, hb⟩
  · refine (add_old B pb v0 v1 r m ns os ks node ka kn kc kz w h hkB hkl hkm hold).mono ?_
    rintro e w' ⟨rfl, ⟨v0, v1, r, hp⟩, hb⟩
    exact ⟨rfl, ⟨ns, os, ks, v0, v1, r, .inl ⟨hold, rfl, rfl, rfl⟩, ⟨hp.cells, hp.nodes, hp.order, hp.keys.mono (by omega), hp.kb⟩⟩, hb⟩

theorem pl_new {w : World} {B : Nat} {v0 v1 : Value} {r : Option Nat} {m : Nat} {ns : List ByteArray} {os : List Int} {ks : List ByteArray} (h : Pv w B v0 v1 r m ns os ks) : Pl (w.alloc (.cells #[v0, v1, .map r] 64)) B w.heap.size v0 v1 r m ns os ks := by
  refine ⟨heap_alloc_new w _, h.nodes.alloc _, h.order.alloc _, ?_, h.kb⟩
  rcases h.keys with e | ⟨b, e, hs⟩
  · exact .inl e
  · exact .inr ⟨b, e, World.ownsMap.alloc hs _⟩

set_option maxHeartbeats 1000000 in
theorem zzAdd_any (B : Nat) (v0 v1 : Value) (r : Option Nat) (m : Nat) (ns : List ByteArray) (os : List Int) (ks : List ByteArray) (node : ByteArray) (ka : Option Addr) (kn kc : Nat) (kz : List Int) (w : World)
    (h : Pv w B v0 v1 r m ns os ks) (hB : B ≤ w.heap.size) (hkB : RowB B w ka kn (intV .u8 kz)) (hkl : kz.length = kn) (hkm : kn ≤ maxLen) (hm : m < maxLen) (hn0 : ns.length ≤ 4000000) (hn1 : os.length ≤ 4000000) :
    Calls Trym.prog 27 #[v0, v1, .map r, .string node, .slice ka kn kc] w (RetZ w B ns os ks node (strOfNums kz) m) := by
  obtain ⟨a0, c0, rfl, hr0⟩ := row_of_owns ByteArray.empty h.nodes
  obtain ⟨a1, c1, rfl, hr1⟩ := row_of_owns 0 h.order
  have HV := Hid.in h
  have HKB := Hid.in hkB
  clear h hkB hr0 hr1
  go_enter Trym.func27, Trym.ntmps27
  go_wp2_with fail
  refine (add_any B w.heap.size _ _ r m ns os ks node ka kn kc kz _ (pl_new HV.out) (by simp; omega) hB (HKB.out.below ((Below.refl _ _).alloc hB _)) hkl hkm hm hn0 hn1).mono ?_
  rintro e w5 ⟨rfl, ⟨ns', os', ks', u0, u1, r', hadd, hp⟩, hb⟩
  obtain ⟨b0, d0, rfl, _⟩ := row_of_owns ByteArray.empty hp.nodes
  obtain ⟨b1, d1, rfl, _⟩ := row_of_owns 0 hp.order
  have g0 := hp.cell0
  have g1 := hp.cell1
  have g2 := hp.cell2
  have HP := Hid.in hp
  have HA := Hid.in hadd
  have HB := Hid.in hb
  clear hp hadd hb
  go_wp2
  go_quiet (fail)
  go_wp2
  go_ret3
  exact ⟨_, _, _, ns', os', ks', rfl, HA.out, ⟨HP.out.nodes, HP.out.order, HP.out.keys, HP.out.kb⟩, below_drewN (((Below.refl _ _).alloc hB _).trans HB.out) nq⟩
end Go.Proofs.Qxb6603923aMods
