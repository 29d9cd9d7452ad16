/-
  The walk of FnPlacementScriptNamesFirstNodeOfEachKey.
-/
import Derived.Test.Qxb6603923aModsPlace4
import Derived.Test.Qxb6603923aModsPlain2
import Derived.Test.Qxb6603923aModsLawAdd
import Derived.Deep.RegionWith
import Derived.Maps.RangeWalk
namespace Go.Proofs.Qxb6603923aMods
open Go.RowKit Go.Maps

/-- What the two loops read: the cloned nodes and keys, below block B. -/
def Src (w : World) (B n : Nat) (b0 b1 : Option Addr) (ns : List ByteArray) (kzs : List (List Int)) : Prop :=
  n ≤ 0 ∨ ∃ p0 o0 p1 o1, b0 = some ⟨p0, o0, none⟩ ∧ b1 = some ⟨p1, o1, none⟩ ∧ p0 < B ∧ p1 < B ∧ ∀ j, j < n → w.cell? ⟨p0, o0 + j, none⟩ = some (.string (ns.getD j ByteArray.empty)) ∧
    ∃ a' n' c', w.cell? ⟨p1, o1 + j, none⟩ = some (.slice a' n' c') ∧ RowB B w a' n' (intV .u8 (kzs.getD j [])) ∧ (kzs.getD j []).length = n' ∧ n' ≤ 1048576

theorem src_mk {w : World} {n : Nat} {b0 b1 : Option Addr} {d1 : Nat} {ns : List ByteArray} {kzs : List (List Int)} {vs : List Value} {B1 : Nat} (h0 : Row w b0 n (strV ns)) (h1 : w.ownsRow B1 40 1 (.slice b1 n d1) n vs) (hl : vs.length = n)
    (hi : ∀ j, j < n → OwnB w B1 (vs.getD j undef) (kzs.getD j [])) (hk : ∀ j, j < n → (kzs.getD j []).length ≤ 1048576) : Src w w.heap.size n b0 b1 ns kzs := by
  by_cases hn : n ≤ 0
  · exact .inl hn
  rcases h0 with h | ⟨p0, o0, rfl, hc0⟩
  · exact .inl h
  rcases h1.2 with ⟨e, h⟩ | ⟨g, cap, cur, e, _⟩
  · omega
  · cases e
    have hcell : ∀ j, j < n → w.cell? ⟨g, 0 + j, none⟩ = some (vs.getD j undef) := fun j hj => by
      rw [Nat.zero_add, h1.cellAt j (by omega)]
      simp [List.getD, show j < vs.length by omega]
    refine .inr ⟨p0, o0, g, 0, rfl, rfl, by have := cell_lt (hc0 0 (by omega)); simpa using this, by have := cell_lt (hcell 0 (by omega)); simpa using this, fun j hj => ⟨hc0 j hj, ?_⟩⟩
    obtain ⟨a', n', c', ev, hr, hn', _⟩ := (hi j hj).sub (by have := hk j hj; unfold maxLen; omega)
    exact ⟨a', n', c', by rw [hcell j hj, ev], hr.toB (Nat.le_refl _), hn', by have := hk j hj; omega⟩

theorem owns_slice {w : World} {B : Nat} {e : TypeId} {v : Value} {n : Nat} {xs : List Value} (h : w.ownsRow B e 1 v n xs) : ∃ a c, v = .slice a n c := by
  rcases h.2 with ⟨rfl, rfl⟩ | ⟨g, cap, cur, rfl, _⟩
  · exact ⟨none, 0, rfl⟩
  · exact ⟨_, cap, rfl⟩
theorem Pv.drew {w : World} {B : Nat} {v0 v1 : Value} {r : Option Nat} {m : Nat} {ns : List ByteArray} {os : List Int} {ks : List ByteArray} (h : Pv w B v0 v1 r m ns os ks) : Pv w.drew B v0 v1 r m ns os ks := ⟨h.nodes, h.order, h.keys, h.kb⟩
def keysB (kzs : List (List Int)) : List ByteArray := kzs.map strOfNums
theorem keysB_at {kzs : List (List Int)} {j : Nat} (h : j < kzs.length) : (keysB kzs).getD j ByteArray.empty = strOfNums (kzs.getD j []) := by
  simp [keysB, List.getD, h]

theorem script_round {ns : List ByteArray} {kzs : List (List Int)} {k n B : Nat} {f : Nat → S3} {nd : ByteArray} {w2 wr w5 : World} {u0 u1 : Value} {r5 : Option Nat} {ns5 : List ByteArray} {os5 : List Int} {ks5 : List ByteArray}
    (HH : Hist ns (keysB kzs) k f) (hnd : ns.getD k ByteArray.empty = nd) (hl : kzs.length = n) (hk : k < n) (hn : Below B w2 wr) (hadd : AddP (f k).ns (f k).os (f k).ks nd (strOfNums (kzs.getD k [])) ns5 os5 ks5) (hpv : Pv w5 B u0 u1 r5 (k + 1) ns5 os5 ks5) (hb : Below B wr.drew w5) :
    Hid (Hist ns (keysB kzs) (k + 1) (fun j => if j ≤ k then f j else ⟨ns5, os5, ks5⟩)) ∧ Pv w5 B u0 u1 r5 (k + 1) ((fun j => if j ≤ k then f j else (⟨ns5, os5, ks5⟩ : S3)) (k + 1)).ns ((fun j => if j ≤ k then f j else (⟨ns5, os5, ks5⟩ : S3)) (k + 1)).os ((fun j => if j ≤ k then f j else (⟨ns5, os5, ks5⟩ : S3)) (k + 1)).ks ∧ Below B w2 w5 := by
  refine ⟨hist_step HH (s := ⟨ns5, os5, ks5⟩) (by rw [hnd, keysB_at (by omega)]; exact hadd), ?_, hn.drew.trans hb⟩
  simp only [show ¬ k + 1 ≤ k from by omega, if_false]
  exact hpv

set_option maxHeartbeats 4000000 in
set_option maxRecDepth 100000 in
theorem lawScript (a0 a1 : Option Addr) (n0 c0 n1 c1 : Nat) (ns : List ByteArray) (kzs : List (List Int)) (w : World)
    (r0 : Row w a0 n0 (strV ns)) (l0 : ns.length = n0) (s0 : ∀ s ∈ ns, s.size ≤ maxLen) (m0 : n0 ≤ maxLen)
    (r1 : Row2 w a1 n1 kzs) (l1 : kzs.length = n1) (m1 : n1 ≤ maxLen) :
    Calls Trym.prog 6 #[.slice a0 n0 c0, .slice a1 n1 c1] w (RetT w) := by
  have H : Hid (Row w a0 n0 (strV ns) ∧ ns.length = n0 ∧ (∀ s ∈ ns, s.size ≤ maxLen) ∧ Row2 w a1 n1 kzs ∧ kzs.length = n1) := ⟨r0, l0, s0, r1, l1⟩
  clear r0 l0 s0 r1 l1
  go_enter Trym.func6, Trym.ntmps6
  go_wp2_with fail
  refine (bytesS_any a0 a1 n0 c0 n1 c1 ns kzs w m0 m1 H.out.1 H.out.2.2.2.1).mono ?_
  rintro e w1 ⟨⟨x, rfl, hx⟩, hw⟩
  obtain rfl : w = w1 := hw.symm
  clear m0 m1
  cases x
  · clear hx
    go_wp2
    go_ret
    exact ⟨rfl, Below.refl _ _⟩
  obtain ⟨q0, q1, q2⟩ := hx rfl
  have Q2 := Hid.in q2
  clear hx q2
  go_wp2_with fail
  all_goals try (go_ret; exact ⟨rfl, Below.refl _ _⟩; done)
  refine (stringsBytes_any a0 n0 c0 ns w H.out.1 (by omega)).mono ?_
  rintro e w1 ⟨⟨z1, rfl⟩, hw⟩
  obtain rfl : w = w1 := hw.symm
  go_wp2_with fail
  refine (bytesBytes_any a1 n1 c1 kzs w H.out.2.2.2.1 (by omega)).mono ?_
  rintro e w1 ⟨⟨z2, rfl⟩, hw⟩
  obtain rfl : w = w1 := hw.symm
  by_cases hne : n0 = n1
  · subst hne
    go_wp2_with fail
    all_goals try (go_ret; exact ⟨rfl, Below.refl _ _⟩; done)
    refine (cloneStrings_any a0 n0 c0 ns w H.out.1 H.out.2.1 (by omega)).mono ?_
    rintro e w1 ⟨v, rfl, hown, hb⟩
    obtain ⟨b0, d0, rfl, hr⟩ := row_of_owns ByteArray.empty hown
    have R0 : Hid (Row w1 b0 n0 (strV ns)) := hr
    have HB1 := Hid.in hb
    clear hown hr hb
    go_wp2_with fail
    refine (cloneBytesList_any a1 n0 c1 kzs w1 (H.out.2.2.2.1.below (Nat.le_refl _) HB1.out) H.out.2.2.2.2 (by omega) (fun j hj => by have := Q2.out j hj; omega)).mono ?_
    rintro e w2 ⟨v, vs, rfl, hvl, hown, hin, hb⟩
    obtain ⟨b1, d1, rfl⟩ := owns_slice hown
    have S2 : Hid (Src w2 w2.heap.size n0 b0 b1 ns kzs) := src_mk (R0.out.below (Nat.le_refl _) hb) hown hvl hin Q2.out
    have HB2 : Hid (Below w.heap.size w w2) := below_step HB1.out hb
    clear hvl hown hin hb HB1 R0
    have hB : w2.heap.size ≤ w2.heap.size := Nat.le_refl _
    have hmk := run_makeMap_hint
    rcases S2.out with hn | ⟨p0, o0, p1, o1, rfl, rfl, hp0, hp1, hc⟩
    all_goals
      go_wp2
      go_loopw [5, 6, 7, 8] (fun v0 v1 mv i wr => ∃ k f r, k ≤ n0 ∧ i = .int .i64 k ∧ mv = .map r ∧ Hid (Hist ns (keysB kzs) k f) ∧ Pv wr w2.heap.size v0 v1 r k (f k).ns (f k).os (f k).ks ∧ Below w2.heap.size w2 wr) (fun _ _ _ i _ => n0 - (intOf i).toNat)
      case atStart => exact ⟨0, _, none, Nat.zero_le _, rfl, rfl, hist_start _ _, ⟨World.ownsRow_nil _ _ _ _, World.ownsRow_nil _ _ _ _, .inl ⟨rfl, rfl⟩, fun b hb => by cases hb⟩, Below.refl _ _⟩
      case round =>
        obtain ⟨k, f, r, hk, rfl, rfl, HH, hpv, hnx⟩ := hrel
        have HP := Hid.in hpv
        have HN := Hid.in hnx
        obtain ⟨e0, f0, rfl⟩ := owns_slice hpv.nodes
        obtain ⟨e1, f1, rfl⟩ := owns_slice hpv.order
        clear hpv hnx
        by_cases hlt : k < n0
        · first | (exfalso; omega; done) | skip
          all_goals
            obtain ⟨hc0, a', n', c', hc1, hrow, hlen, hnm⟩ := hc k hlt
            have hd0 : wr.cell? ⟨p0, o0 + k, none⟩ = some (.string (ns.getD k ByteArray.empty)) := (HN.out.cell (by exact hp0)).trans hc0
            have hd1 : wr.cell? ⟨p1, o1 + k, none⟩ = some (.slice a' n' c') := (HN.out.cell (by exact hp1)).trans hc1
            have HR := Hid.in (hrow.below HN.out)
            have HL := Hid.in hlen
            generalize hnd : ns.getD k ByteArray.empty = nd at *
            have HND := Hid.in hnd
            clear hc hc0 hc1 hrow hlen hnd
            have HL2 := hist_len HH.out k (Nat.le_refl _)
            have HC : Hid (Calls Trym.prog 27 #[.slice e0 (f k).ns.length f0, .slice e1 (f k).os.length f1, .map r, .string nd, .slice a' n' c'] wr.drew (RetZ wr.drew w2.heap.size (f k).ns (f k).os (f k).ks nd (strOfNums (kzs.getD k [])) k)) :=
              zzAdd_any w2.heap.size _ _ r k _ _ _ nd a' n' c' _ wr.drew HP.out.drew HN.out.size HR.out HL.out (by unfold maxLen; omega) (by unfold maxLen; omega) (by omega) (by omega)
            clear HL2
            go_wp2_with fail
            go_region_with (go_at_call 27; refine HC.out.mono ?_; rintro e w5 ⟨u0, u1, r5, ns5, os5, ks5, rfl, hadd, hpv5, hb5⟩; have HR5 := Hid.in (script_round HH.out HND.out H.out.2.2.2.2 hlt HN.out hadd hpv5 hb5); clear hadd hpv5 hb5)
            all_goals
              go_wp2
              go_roundw
              case rel => exact ⟨k + 1, _, r5, by omega, by go_num, rfl, HR5.out.1, HR5.out.2.1, HR5.out.2.2⟩
              case measure => simp [intOf]; omega
        · have hge : n0 ≤ k := by omega
          have X0 : Hid (Row wr e0 (f k).ns.length (strV (f k).ns)) := row_of_owns' ByteArray.empty HP.out.nodes
          have X1 : Hid (Row wr e1 (f k).os.length (intV .i64 (f k).os)) := row_of_owns' 0 HP.out.order
          have XK := Hid.in HP.out.keys
          have XL := Hid.in XK.out.lt
          have HL2 := hist_len HH.out k (Nat.le_refl _)
          clear HP
          obtain ⟨wo, rfl⟩ : ∃ wo : World, wo = wr := ⟨_, rfl⟩
          go_wp2
          go_loopw [10, 11] (fun jv iv ws => ∃ i : Nat, i ≤ n0 ∧ iv = .int .i64 i ∧ jv = .int .i64 (f i).os.length ∧ SetM ws wo.heap.size i (f i).ks ∧ Below wo.heap.size wo ws) (fun _ i _ => n0 - (intOf i).toNat)
          case atStart => exact ⟨0, Nat.zero_le _, rfl, by rw [HH.out.1]; rfl, by rw [HH.out.1]; exact SetM.made wo, (Below.refl _ _).alloc (Nat.le_refl _) _⟩
          case round =>
            obtain ⟨i, hi, rfl, rfl, hset, hnx⟩ := hrel
            have HT := Hid.in hset
            have HNX := Hid.in hnx
            clear hset hnx
            by_cases hlt2 : i < n0
            · first | (exfalso; omega; done) | skip
              all_goals
                obtain ⟨hc0, a', n', c', hc1, hrow, hlen, hnm⟩ := hc i hlt2
                have hlo : w2.heap.size ≤ wo.heap.size := HN.out.size
                have HBB : Hid (Below w2.heap.size w2 wr) := HN.out.trans (HNX.out.mono hlo)
                have hd1 : wr.cell? ⟨p1, o1 + i, none⟩ = some (.slice a' n' c') := (HBB.out.cell (by exact hp1)).trans hc1
                have hconv : (convert 40 9 (.slice a' n' c')).run Trym.prog wr = .ok (.string (strOfNums (kzs.getD i []))) wr := run_conv (hrow.below HBB.out).row hlen
                have hKs : (strOfNums (kzs.getD i [])).size ≤ maxLen := by rw [strOfNums_size, hlen]; unfold maxLen; omega
                have hKe := keysB_at (kzs := kzs) (j := i) (by have := H.out.2.2.2.2; omega)
                have hkey := hist_key HH.out (i := i) (by omega)
                rw [hKe] at hkey
                have hlk1 : (Instr.lookup 44 (.map r) (.string (strOfNums (kzs.getD i []))) false).run Trym.prog wr = .ok (.bool true) wr := by
                  have := (MSet.below XK.out XL.out HNX.out).look hKs
                  rw [hkey] at this; exact this
                have hlk2 := SetM.look HT.out hKs
                cases hm : memB (f i).ks (strOfNums (kzs.getD i []))
                · obtain ⟨y1, y2, y3, x, y4, y5, y6⟩ := hist_new HH.out (i := i) (by omega) (by rw [hKe]; exact hm)
                  rw [hKe] at y1
                  rw [hm] at hlk2
                  have hd0 : wr.cell? ⟨p0, o0 + i, none⟩ = some (.string (ns.getD i ByteArray.empty)) := (HBB.out.cell (by exact hp0)).trans hc0
                  rcases X0.out with h | ⟨q0, t0, rfl, g0⟩
                  · exfalso; omega
                  rcases X1.out with h | ⟨q1, t1, rfl, g1⟩
                  · exfalso; omega
                  have k0 : wo.cell? ⟨q0, t0 + x, none⟩ = some (.string (ns.getD i ByteArray.empty)) := by rw [g0 x y5]; unfold strV; rw [y6]
                  have k1 : wo.cell? ⟨q1, t1 + (f i).os.length, none⟩ = some (.int .i64 (x : Int)) := by rw [g1 _ y3]; unfold intV; rw [y4]
                  have F0 := Hid.in k0
                  have F1 := Hid.in k1
                  have F2 := Hid.in ((HN.out.cell (by exact hp0)).trans hc0)
                  have HY := Hid.in (And.intro y1 y2)
                  have HKS := Hid.in hKs
                  have hil := hist_len HH.out i (by omega)
                  generalize strOfNums (kzs.getD i []) = K at *
                  generalize ns.getD i ByteArray.empty = nd at *
                  clear hc hc0 hc1 hrow hlen hkey hKe y1 y2 y4 y6 hm g0 g1 k0 k1 hd0
                  go_wp2_with (at_mapUpdate; refine wpList_upd _ rfl _ _ _ rfl wo.heap.size i (f i).ks K rfl rfl rfl HT.out (by unfold maxLen; omega) hKs ?_; intro w6 hown6 hturn6; go_frame)
                  have HB6 : Hid (Below wo.heap.size wo w6) := below_turned HNX.out hturn6 (Nat.le_refl _) HNX.out.size
                  have HO6 := Hid.in hown6
                  have f0 : w6.cell? ⟨q0, t0 + x, none⟩ = some (.string nd) := cell_later HB6.out F0.out
                  have f1 : w6.cell? ⟨q1, t1 + (f i).os.length, none⟩ = some (.int .i64 (x : Int)) := cell_later HB6.out F1.out
                  have f2 : w6.cell? ⟨p0, o0 + i, none⟩ = some (.string nd) := cell_later HB6.out F2.out
                  clear hown6 hturn6
                  have b1 : decide (((f k).os.length : Int) ≤ ((f i).os.length : Int)) = false := decide_eq_false (by omega)
                  have b2 : decide ((x : Int) < 0) = false := decide_eq_false (by omega)
                  have b3 : decide (((f k).ns.length : Int) ≤ (x : Int)) = false := decide_eq_false (by omega)
                  have b4 : ((f i).os.length : Int) < ((f k).os.length : Int) := by omega
                  have b5 : (x : Int) < ((f k).ns.length : Int) := by omega
                  have b6 : (i : Int) < (n0 : Int) := by omega
                  go_quiet (fail)
                  go_wp2
                  go_roundw
                  case rel => exact ⟨i + 1, by omega, by go_num, by rw [HY.out.2]; go_num, by rw [HY.out.1]; exact HO6.out, below_drewN HB6.out nq⟩
                  case measure => simp [intOf]; omega
                · obtain ⟨y1, y2⟩ := hist_old HH.out (i := i) (by omega) (by rw [hKe]; exact hm)
                  rw [hm] at hlk2
                  have HY := Hid.in (And.intro y1 y2)
                  have HM := Hid.in hm
                  generalize strOfNums (kzs.getD i []) = K at *
                  clear hc hc0 hc1 hrow hlen hkey hKe y1 y2 hm
                  go_wp2
                  go_roundw
                  case rel => exact ⟨i + 1, by omega, by go_num, by rw [HY.out.2], by rw [HY.out.1]; exact World.ownsMap.mono HT.out (Nat.le_succ _), HNX.out⟩
                  case measure => simp [intOf]; omega
            · have hik : i = k := by omega
              have hq : (((f i).os.length : Int) == ((f k).os.length : Int)) = true := by rw [hik]; simp
              have HS := hist_str HH.out (by have := H.out.2.1; omega) H.out.2.2.1 k (Nat.le_refl _)
              have HSH := Hid.in HS
              clear hik HS
              first | clear hc | skip
              go_wp2_with fail
              refine (wellFormed_any e0 e1 (f k).ns.length f0 (f k).os.length f1 (f k).ns (f k).os r k (f k).ks wr (X0.out.below (Nat.le_refl _) HNX.out) rfl HSH.out (by omega) (X1.out.below (Nat.le_refl _) HNX.out) rfl (by omega) (MSet.below XK.out XL.out HNX.out) (MSet.below XK.out XL.out HNX.out).lt).mono ?_
              rintro e w9 ⟨⟨x, rfl, hx⟩, hb9⟩
              obtain rfl : x = true := hx.2 (hist_wf HH.out k (Nat.le_refl _))
              have HB9 : Hid (Below w.heap.size w w9) := below_step (below_step (below_step HB2.out HN.out) HNX.out) hb9
              clear hx hb9
              go_wp2
              go_ret
              exact ⟨rfl, HB9.out⟩
  · have hneb : ((n0 : Int) != (n1 : Int)) = true := by rw [bne_iff_ne]; omega
    go_wp2
    all_goals (go_ret; exact ⟨rfl, Below.refl _ _⟩)
end Go.Proofs.Qxb6603923aMods
