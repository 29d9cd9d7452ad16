/-
  The walk of FnPlacementAddKeepsRecordWellFormed.
-/
import Derived.Test.Qxb6603923aModsPlain1
namespace Go.Proofs.Qxb6603923aMods
open Go.RowKit Go.Maps

def RetT (w : World) (e : Ending) (w' : World) : Prop := e = .returned (.bool true) ∧ Below w.heap.size w w'
theorem below_step {w w1 w2 : World} (h : Below w.heap.size w w1) (h2 : Below w1.heap.size w1 w2) : Below w.heap.size w w2 := h.trans (h2.mono h.size)

set_option maxHeartbeats 4000000 in
theorem lawAdd (a0 a1 a2 a4 : Option Addr) (n0 c0 n1 c1 n2 c2 n4 c4 : Nat) (ns : List ByteArray) (os : List Int) (ks : List ByteArray) (nd : ByteArray) (kz : List Int) (w : World)
    (r0 : Row w a0 n0 (strV ns)) (l0 : ns.length = n0) (s0 : ∀ s ∈ ns, s.size ≤ maxLen) (m0 : n0 ≤ maxLen)
    (r1 : Row w a1 n1 (intV .i64 os)) (l1 : os.length = n1) (m1 : n1 ≤ maxLen)
    (r2 : Row w a2 n2 (strV ks)) (l2 : ks.length = n2) (s2 : ∀ s ∈ ks, s.size ≤ maxLen) (m2 : n2 ≤ maxLen)
    (m3 : nd.size ≤ maxLen) (r4 : Row w a4 n4 (intV .u8 kz)) (l4 : kz.length = n4) (m4 : n4 ≤ maxLen) :
    Calls Trym.prog 5 #[.slice a0 n0 c0, .slice a1 n1 c1, .slice a2 n2 c2, .string nd, .slice a4 n4 c4] w (RetT w) := by
  have H : Hid (Row w a0 n0 (strV ns) ∧ ns.length = n0 ∧ (∀ s ∈ ns, s.size ≤ maxLen) ∧ Row w a1 n1 (intV .i64 os) ∧ os.length = n1 ∧ Row w a2 n2 (strV ks) ∧ ks.length = n2 ∧ (∀ s ∈ ks, s.size ≤ maxLen) ∧ Row w a4 n4 (intV .u8 kz) ∧ kz.length = n4) := ⟨r0, l0, s0, r1, l1, r2, l2, s2, r4, l4⟩
  clear r0 l0 s0 r1 l1 r2 l2 s2 r4 l4
  go_enter Trym.func5, Trym.ntmps5
  go_wp2_with fail
  obtain ⟨r0, l0, s0, r1, l1, r2, l2, s2, r4, l4⟩ := H.out
  refine (bytes5_any a0 a1 a2 a4 n0 c0 n1 c1 n2 c2 n4 c4 ns ks nd w m0 m1 m2 m3 m4 r0 r2).mono ?_
  rintro e w1 ⟨⟨x, rfl, hx⟩, hw⟩
  obtain rfl : w = w1 := hw.symm
  have m0' : nd.size ≤ 9223372036854775807 := m3
  clear m0 m1 m2 m3 m4 r0 l0 s0 r1 l1 r2 l2 s2 r4 l4
  cases x
  · clear hx
    go_wp2
    go_ret
    exact ⟨rfl, Below.refl _ _⟩
  obtain ⟨q0, q1, q2, q3, q4⟩ := hx rfl
  clear hx
  go_wp2_with fail
  all_goals try (go_ret; exact ⟨rfl, Below.refl _ _⟩; done)
  refine (stringsBytes_any a0 n0 c0 ns w H.out.1 (by omega)).mono ?_
  rintro e w1 ⟨⟨z1, rfl⟩, hw⟩
  obtain rfl : w = w1 := hw.symm
  go_wp2_with fail
  refine (stringsBytes_any a2 n2 c2 ks w H.out.2.2.2.2.2.1 (by omega)).mono ?_
  rintro e w1 ⟨⟨z2, rfl⟩, hw⟩
  obtain rfl : w = w1 := hw.symm
  go_wp2_with fail
  all_goals try (go_ret; exact ⟨rfl, Below.refl _ _⟩; done)
  obtain ⟨r0, l0, s0, r1, l1, r2, l2, s2, r4, l4⟩ := H.out
  refine (keySet_any a2 n2 c2 ks w r2 l2 s2 (by omega)).mono ?_
  rintro e w1 ⟨r, rfl, hm1, _, hb1⟩
  clear r0 l0 s0 r1 l1 r2 l2 s2 r4 l4
  have HM1 := Hid.in hm1
  have HB1 := Hid.in hb1
  clear hm1 hb1
  go_wp2_with fail
  obtain ⟨r0, l0, s0, r1, l1, r2, l2, s2, r4, l4⟩ := H.out
  refine (wellFormed_any a0 a1 n0 c0 n1 c1 ns os r n2 ks w1 (r0.below (Nat.le_refl _) HB1.out) l0 s0 (by omega) (r1.below (Nat.le_refl _) HB1.out) l1 (by omega) HM1.out HM1.out.lt).mono ?_
  rintro e w2 ⟨⟨x, rfl, hx⟩, hb2⟩
  clear r0 l0 s0 r1 l1 r2 l2 s2 r4 l4
  have HB2 : Hid (Below w.heap.size w w2) := below_step HB1.out hb2
  clear hb2 HM1 HB1
  cases x
  · clear hx
    go_wp2
    go_ret
    exact ⟨rfl, HB2.out⟩
  have HW : Hid (WF ns os (dcount ks)) := hx.1 rfl
  clear hx
  go_wp2_with fail
  refine (cloneStrings_any a0 n0 c0 ns w2 (H.out.1.below (Nat.le_refl _) HB2.out) H.out.2.1 (by omega)).mono ?_
  rintro e w3 ⟨v, rfl, hown, hb⟩
  obtain ⟨b0, d0, rfl, hr⟩ := row_of_owns ByteArray.empty hown
  have R0 : Hid (Row w3 b0 n0 (strV ns)) := hr
  have HB3 : Hid (Below w.heap.size w w3) := below_step HB2.out hb
  clear hown hr hb HB2
  go_wp2_with fail
  refine (cloneInts_any a1 n1 c1 os w3 (H.out.2.2.2.1.below (Nat.le_refl _) HB3.out) H.out.2.2.2.2.1 (by omega)).mono ?_
  rintro e w4 ⟨v, rfl, hown, hb⟩
  obtain ⟨b1, d1, rfl, hr⟩ := row_of_owns 0 hown
  have R1 : Hid (Row w4 b1 n1 (intV .i64 os)) := hr
  have R0' : Hid (Row w4 b0 n0 (strV ns)) := R0.out.below (Nat.le_refl _) hb
  have HB4 : Hid (Below w.heap.size w w4) := below_step HB3.out hb
  clear hown hr hb HB3 R0
  go_wp2_with fail
  refine (cloneStrings_any a2 n2 c2 ks w4 (H.out.2.2.2.2.2.1.below (Nat.le_refl _) HB4.out) H.out.2.2.2.2.2.2.1 (by omega)).mono ?_
  rintro e w5 ⟨v, rfl, hown, hb⟩
  obtain ⟨b2, d2, rfl, hr⟩ := row_of_owns ByteArray.empty hown
  have R2 : Hid (Row w5 b2 n2 (strV ks)) := hr
  have R0 : Hid (Row w5 b0 n0 (strV ns)) := R0'.out.below (Nat.le_refl _) hb
  have R1' : Hid (Row w5 b1 n1 (intV .i64 os)) := R1.out.below (Nat.le_refl _) hb
  have HB5 : Hid (Below w.heap.size w w5) := below_step HB4.out hb
  clear hown hr hb HB4 R0' R1
  go_wp2_with fail
  refine (cloneBytes_any a4 n4 c4 kz w5 (H.out.2.2.2.2.2.2.2.2.1.below (Nat.le_refl _) HB5.out) H.out.2.2.2.2.2.2.2.2.2 (by omega)).mono ?_
  rintro e w6 ⟨v, rfl, hown, hb⟩
  obtain ⟨b4, d4, rfl, hr⟩ := row_of_owns 0 hown
  have R4 : Hid (Row w6 b4 n4 (intV .u8 kz)) := hr
  have R0' : Hid (Row w6 b0 n0 (strV ns)) := R0.out.below (Nat.le_refl _) hb
  have R1 : Hid (Row w6 b1 n1 (intV .i64 os)) := R1'.out.below (Nat.le_refl _) hb
  have R2' : Hid (Row w6 b2 n2 (strV ks)) := R2.out.below (Nat.le_refl _) hb
  have HB6 : Hid (Below w.heap.size w w6) := below_step HB5.out hb
  clear hown hr hb HB5 R0 R1' R2
  go_wp2_with fail
  refine (keySet_any b2 n2 d2 ks w6 R2'.out H.out.2.2.2.2.2.2.1 H.out.2.2.2.2.2.2.2.1 (by omega)).mono ?_
  rintro e w7 ⟨r7, rfl, hm7, hr7, hb⟩
  have HM7 := Hid.in hm7
  have HR7 := Hid.in hr7
  have R0 : Hid (Row w7 b0 n0 (strV ns)) := R0'.out.below (Nat.le_refl _) hb
  have R1' : Hid (Row w7 b1 n1 (intV .i64 os)) := R1.out.below (Nat.le_refl _) hb
  have K7 : Hid (RowB w6.heap.size w7 b4 n4 (intV .u8 kz)) := (R4.out.toB (Nat.le_refl _)).below hb
  have HB67 := Hid.in hb
  clear hm7 hr7 hb R0' R1 R2' R4
  have hn4 : (strOfNums kz).size ≤ maxLen := by rw [strOfNums_size, H.out.2.2.2.2.2.2.2.2.2]; unfold maxLen; omega
  have HN4 := Hid.in hn4
  have hconv : (convert 40 9 (.slice b4 n4 d4)).run Trym.prog w7 = .ok (.string (strOfNums kz)) w7 := run_conv K7.out.row H.out.2.2.2.2.2.2.2.2.2
  have hlook := HM7.out.look hn4
  clear hn4
  go_wp2_with fail
  clear hconv hlook
  refine (cloneStrings_any b0 n0 d0 ns w7 R0.out H.out.2.1 (by omega)).mono ?_
  rintro e w8 ⟨v, rfl, hown8, hb8⟩
  obtain ⟨f0, g0, rfl, _⟩ := row_of_owns ByteArray.empty hown8
  have O8 := Hid.in hown8
  have HB8 := Hid.in hb8
  clear hown8 hb8 R0
  go_wp2_with fail
  refine (cloneInts_any b1 n1 d1 os w8 (R1'.out.below (Nat.le_refl _) HB8.out) H.out.2.2.2.2.1 (by omega)).mono ?_
  rintro e w9 ⟨v, rfl, hown9, hb9⟩
  obtain ⟨f1, g1, rfl, _⟩ := row_of_owns 0 hown9
  have HP9 : Hid (Pv w9 w6.heap.size (.slice f0 n0 g0) (.slice f1 n1 g1) r7 n2 ns os ks) := by
    have l0 := H.out.2.1
    have l1 := H.out.2.2.2.2.1
    refine ⟨by rw [l0]; exact owns_base (owns_below O8.out (Nat.le_refl _) hb9) HB67.out.size, by rw [l1]; exact owns_base hown9 (Nat.le_trans HB67.out.size HB8.out.size), ?_, HR7.out⟩
    exact MSet.below (MSet.below HM7.out HM7.out.lt HB8.out) (fun b hb => Nat.lt_of_lt_of_le (HM7.out.lt b hb) HB8.out.size) hb9
  have K9 : Hid (RowB w6.heap.size w9 b4 n4 (intV .u8 kz)) := (K7.out.below (HB8.out.mono HB67.out.size)).below (hb9.mono (Nat.le_trans HB67.out.size HB8.out.size))
  have HB9 : Hid (Below w6.heap.size w6 w9) := below_step (below_step HB67.out HB8.out) hb9
  clear hown9 hb9 R1' O8 K7 HB8 HB67 HR7 HM7
  go_wp2_with fail
  refine (zzAdd_any w6.heap.size _ _ r7 n2 ns os ks nd b4 n4 d4 kz w9 HP9.out HB9.out.size K9.out H.out.2.2.2.2.2.2.2.2.2 (by unfold maxLen; omega) (by unfold maxLen; omega) (by have := H.out.2.1; omega) (by have := H.out.2.2.2.2.1; omega)).mono ?_
  rintro e w10 ⟨u0, u1, r', ns', os', ks', rfl, hadd, hpv, hb10⟩
  obtain ⟨x0, y0, rfl, hx0⟩ := row_of_owns ByteArray.empty hpv.nodes
  obtain ⟨x1, y1, rfl, hx1⟩ := row_of_owns 0 hpv.order
  obtain ⟨hwf, hmem⟩ := wf_add HW.out hadd
  obtain ⟨len0, len1, hss⟩ := len_add hadd
  have q0' : ns'.length ≤ 1048577 := by have := H.out.2.1; omega
  have q1' : os'.length ≤ 1048577 := by have := H.out.2.2.2.2.1; omega
  have HS' : Hid (∀ s ∈ ns', s.size ≤ maxLen) := fun s hs => by
    rcases hss s hs with h | rfl
    · exact H.out.2.2.1 s h
    · exact m0'
  have HX0 : Hid (Row w10 x0 ns'.length (strV ns')) := hx0
  have HX1 : Hid (Row w10 x1 os'.length (intV .i64 os')) := hx1
  have HF := Hid.in hwf
  have HE := Hid.in hmem
  have HAD := Hid.in hadd
  have HK10 := Hid.in hpv.keys
  have K10 : Hid (RowB w6.heap.size w10 b4 n4 (intV .u8 kz)) := K9.out.below hb10
  have HB10 : Hid (Below w.heap.size w w10) := HB6.out.trans ((HB9.out.trans hb10).mono HB6.out.size)
  clear hx0 hx1 hwf hmem len0 len1 hss hadd hpv hb10 HP9 K9 HB9 HB6 HW
  go_wp2_with fail
  refine (wellFormed_any x0 x1 ns'.length y0 os'.length y1 ns' os' r' (n2 + 1) ks' w10 HX0.out rfl HS'.out (by omega) HX1.out rfl (by omega) HK10.out HK10.out.lt).mono ?_
  rintro e w11 ⟨⟨x, rfl, hx⟩, hb11⟩
  obtain rfl : x = true := hx.2 HF.out
  have hconv : (convert 40 9 (.slice b4 n4 d4)).run Trym.prog w11 = .ok (.string (strOfNums kz)) w11 := run_conv (K10.out.row.below (Nat.le_refl _) hb11) H.out.2.2.2.2.2.2.2.2.2
  have hlook := (MSet.below HK10.out HK10.out.lt hb11).look HN4.out
  rw [HE.out] at hlook
  have HY0 : Hid (Row w11 x0 ns'.length (strV ns')) := HX0.out.below (Nat.le_refl _) hb11
  have HY1 : Hid (Row w11 x1 os'.length (intV .i64 os')) := HX1.out.below (Nat.le_refl _) hb11
  have HB11 : Hid (Below w.heap.size w w11) := below_step HB10.out hb11
  clear hx hb11 HX0 HX1 HF HE HK10 K10 HB10
  cases hh : memB ks (strOfNums kz)
  · obtain ⟨i, hos, hi, hat⟩ := last_add HAD.out hh
    have hL : os'.length = os.length + 1 := by rw [hos]; simp
    rcases HY0.out with h | ⟨p0, o0, rfl, hc0⟩
    · omega
    rcases HY1.out with h | ⟨p1, o1, rfl, hc1⟩
    · omega
    have hd1 : w11.cell? ⟨p1, o1 + (os'.length - 1), none⟩ = some (.int .i64 (i : Int)) := by
      rw [hc1 (os'.length - 1) (by omega), hL]; simp [intV, hos]
    have hd0 : w11.cell? ⟨p0, o0 + i, none⟩ = some (.string nd) := by
      rw [hc0 i hi]; unfold strV; rw [hat]
    have hl0 : ((os'.length : Int) == 0) = false := beq_eq_false_iff_ne.2 (by omega)
    have hl1 : 1 ≤ os'.length := by omega
    clear hos hL hat hc0 hc1 HY0 HY1 HAD
    go_wp2
    go_ret
    exact ⟨rfl, HB11.out⟩
  · clear HY0 HY1 HAD
    go_wp2
    go_ret
    exact ⟨rfl, HB11.out⟩
end Go.Proofs.Qxb6603923aMods
