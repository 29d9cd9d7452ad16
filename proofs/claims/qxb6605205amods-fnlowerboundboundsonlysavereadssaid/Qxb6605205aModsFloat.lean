/-
  The guess of lowerBound: float64(a) / float64(b) * float64(n), cut to a whole number, lies from 0 to n, where 1 ≤ a ≤ b.
-/
import Derived.Laws.FloatArith
namespace Go.Proofs.Qxb6605205aMods
open Ieee
set_option exponentiation.threshold 4000

theorem cut_even_le {neg : Bool} {x d K : Nat} (h : x ≤ K * 2 ^ d) : Toward.even.cut neg x d ≤ K := by
  unfold Toward.cut
  simp only [Nat.shiftLeft_eq, Nat.one_mul]
  by_cases hd : d ≤ x.log2 + 2
  · rw [Nat.min_eq_left hd]
    have hg : 0 < 2 ^ d := Nat.two_pow_pos _
    generalize 2 ^ d = g at h hg
    have hm := Nat.div_add_mod x g
    have hlt := Nat.mod_lt x hg
    by_cases hk : x / g < K
    · have : ∀ b : Bool, b.toNat ≤ 1 := fun b => by cases b <;> decide
      have := this (decide (g < 2 * (x % g)) || (g == 2 * (x % g) && x / g % 2 == 1))
      omega
    · have h1 : g * K ≤ g * (x / g) := Nat.mul_le_mul_left _ (by omega)
      rw [Nat.mul_comm K g] at h
      have hr : x % g = 0 := by omega
      have he : x / g = K := by
        apply Nat.eq_of_mul_eq_mul_left hg; omega
      rw [hr, he]
      have e1 : (g == 2 * 0) = false := by simp; omega
      simp [e1]
  · rw [Nat.min_eq_right (by omega)]
    have hx : x < 2 ^ (x.log2 + 1) := Nat.lt_log2_self
    have hp : 2 ^ (x.log2 + 2) = 2 * 2 ^ (x.log2 + 1) := by rw [Nat.pow_succ, Nat.mul_comm]
    rw [hp]
    generalize 2 ^ (x.log2 + 1) = g at hx
    have e0 : x / (2 * g) = 0 := Nat.div_eq_of_lt (by omega)
    have e1 : x % (2 * g) = x := Nat.mod_eq_of_lt (by omega)
    rw [e0, e1]
    have e2 : (2 * g == 2 * x) = false := by simp; omega
    have e3 : decide (2 * g < 2 * x) = false := by simp; omega
    simp only [e2, e3, Bool.false_and, Bool.or_false, Bool.toNat_false]
    omega

theorem cut_even_mono {neg : Bool} {x y d : Nat} (hx : d ≤ x.log2 + 2) (hy : d ≤ y.log2 + 2) (h : x ≤ y) : Toward.even.cut neg x d ≤ Toward.even.cut neg y d := by
  unfold Toward.cut
  simp only [Nat.shiftLeft_eq, Nat.one_mul]
  rw [Nat.min_eq_left hx, Nat.min_eq_left hy]
  have hg : 0 < 2 ^ d := Nat.two_pow_pos _
  generalize 2 ^ d = g at hg
  have hmx := Nat.div_add_mod x g
  have hmy := Nat.div_add_mod y g
  have hle : x / g ≤ y / g := Nat.div_le_div_right h
  have one : ∀ b : Bool, b.toNat ≤ 1 := fun b => by cases b <;> decide
  by_cases hl : x / g < y / g
  · have := one (decide (g < 2 * (x % g)) || (g == 2 * (x % g) && x / g % 2 == 1))
    omega
  · have he : x / g = y / g := by omega
    have hr : x % g ≤ y % g := by rw [he] at hmx; omega
    rw [he]
    apply Nat.add_le_add_left
    by_cases c1 : g < 2 * (x % g)
    · have : g < 2 * (y % g) := by omega
      simp [c1, this]
    · by_cases c2 : g = 2 * (x % g)
      · by_cases c3 : x % g = y % g
        · rw [c3]; exact Nat.le_refl _
        · have : g < 2 * (y % g) := by omega
          simp only [this, decide_true, Bool.true_or]
          exact one _
      · have e1 : decide (g < 2 * (x % g)) = false := by simpa using c1
        have e2 : (g == 2 * (x % g)) = false := by simpa using c2
        simp [e1, e2]

theorem cut_even_ge {neg : Bool} {x d K : Nat} (hx : d ≤ x.log2 + 2) (h : K * 2 ^ d ≤ x) : K ≤ Toward.even.cut neg x d := by
  unfold Toward.cut
  simp only [Nat.shiftLeft_eq, Nat.one_mul]
  rw [Nat.min_eq_left hx]
  have : K ≤ x / 2 ^ d := (Nat.le_div_iff_mul_le (Nat.two_pow_pos _)).2 h
  omega

theorem cut_even_zero {neg : Bool} {x : Nat} : Toward.even.cut neg x 0 = x := by
  unfold Toward.cut
  simp [Nat.mod_one]

theorem cut_zero_le {neg : Bool} {x d K : Nat} (h : x ≤ K * 2 ^ d) : Toward.zero.cut neg x d ≤ K := by
  unfold Toward.cut
  simp only [Nat.shiftLeft_eq, Nat.one_mul, Bool.toNat_false, Nat.add_zero]
  by_cases hd : d ≤ x.log2 + 2
  · rw [Nat.min_eq_left hd]
    exact Nat.div_le_of_le_mul (by rw [Nat.mul_comm]; exact h)
  · rw [Nat.min_eq_right (by omega)]
    have hx : x < 2 ^ (x.log2 + 1) := Nat.lt_log2_self
    have hp : 2 ^ (x.log2 + 2) = 2 * 2 ^ (x.log2 + 1) := by rw [Nat.pow_succ, Nat.mul_comm]
    rw [Nat.div_eq_of_lt (by omega)]
    exact Nat.zero_le _

/-- Rungs to a binade. -/
def BB : Nat := 4503599627370496
theorem BB_pos : 0 < BB := by decide

theorem dbl_binade : double.binade = BB := by decide
theorem dbl_least : double.leastPlace = -1074 := by decide
theorem dbl_inf : double.infRung = 2047 * BB := by decide
theorem dbl_sign : double.signWeight = 2 ^ 63 := by decide
theorem dbl_frac : double.fractionBits = 52 := rfl

theorem BB_pow : BB = 2 ^ 52 := by decide

/-- What is no more than a number of the format is rounded to no more than it. -/
theorem nearest_le {mag : Nat} {place : Int} {k K s E : Nat} (hE : (E : Int) = place + 1074 + s) (hK : BB ≤ K) (hK2 : K < 2 * BB) (h : mag * 2 ^ E ≤ K * 2 ^ (k + s)) :
    double.nearest false mag place ≤ k * BB + K := by
  unfold Format.nearest
  by_cases h0 : mag = 0
  · simp [h0, Format.word]
  rw [if_neg h0]
  simp only [Format.word, dbl_least, dbl_binade, dbl_inf, dbl_frac, Bool.false_eq_true, if_false, Nat.shiftLeft_eq]
  refine Nat.le_trans (Nat.min_le_left _ _) ?_
  have hlow : 2 ^ mag.log2 ≤ mag := Nat.log2_self_le h0
  have hup : mag < 2 ^ (mag.log2 + 1) := Nat.lt_log2_self
  generalize mag.log2 = l at hlow hup
  generalize hlast : max (place + (l : Int) - ((52 : Nat) : Int)) (-1074) = last
  have hl1 : place + (l : Int) - 52 ≤ last := by omega
  have hl2 : (-1074 : Int) ≤ last := by omega
  have hl3 : last = place + (l : Int) - 52 ∨ last = -1074 := by omega
  clear hlast
  obtain ⟨k', hk'⟩ : ∃ k' : Nat, (last - -1074).toNat = k' := ⟨_, rfl⟩
  rw [hk']
  have hk2 : (k' : Int) = last + 1074 := by omega
  rcases Nat.lt_trichotomy k' k with hlt | heq | hgt
  · have hc : Toward.even.cut false (mag * 2 ^ (place - last).toNat) (last - place).toNat ≤ 2 * BB := by
      apply cut_even_le
      have e1 : mag * 2 ^ (place - last).toNat ≤ 2 ^ (l + 1) * 2 ^ (place - last).toNat := Nat.mul_le_mul_right _ (by omega)
      refine Nat.le_trans e1 ?_
      rw [← Nat.pow_add, BB_pow, show 2 * 2 ^ 52 = 2 ^ 53 by decide, ← Nat.pow_add]
      apply Nat.pow_le_pow_right (by decide)
      omega
    have : (k' + 1) * BB ≤ k * BB := Nat.mul_le_mul_right _ hlt
    have e : (k' + 1) * BB = k' * BB + BB := by rw [Nat.add_mul, Nat.one_mul]
    omega
  · subst heq
    apply Nat.add_le_add_left
    apply cut_even_le
    by_cases hb : last ≤ place
    · have e1 : (last - place).toNat = 0 := by omega
      rw [e1, Nat.pow_zero, Nat.mul_one]
      have e2 : E = (place - last).toNat + (k' + s) := by omega
      rw [e2, Nat.pow_add, ← Nat.mul_assoc] at h
      exact Nat.le_of_mul_le_mul_right h (Nat.two_pow_pos _)
    · have e1 : (place - last).toNat = 0 := by omega
      rw [e1, Nat.pow_zero, Nat.mul_one]
      have e2 : k' + s = (last - place).toNat + E := by omega
      rw [e2, Nat.pow_add, ← Nat.mul_assoc] at h
      exact Nat.le_of_mul_le_mul_right h (Nat.two_pow_pos _)
  · exfalso
    have e1 : 2 ^ (l + E) ≤ mag * 2 ^ E := by rw [Nat.pow_add]; exact Nat.mul_le_mul_right _ hlow
    have e2 : 2 ^ (53 + (k + s)) ≤ 2 ^ (l + E) := Nat.pow_le_pow_right (by decide) (by omega)
    have e3 : K * 2 ^ (k + s) < 2 ^ (53 + (k + s)) := by
      rw [Nat.pow_add 2 53]
      exact Nat.mul_lt_mul_of_pos_right (by rw [BB_pow] at hK2; omega) (Nat.two_pow_pos _)
    omega

theorem nearest_lt_inf {mag : Nat} {place : Int} : double.nearest false mag place ≤ 2047 * BB := by
  unfold Format.nearest
  split
  · simp [Format.word]
  · simp only [Format.word, dbl_inf, Bool.false_eq_true, if_false]
    exact Nat.min_le_right _ _

theorem read_normal {r : Nat} (h1 : BB ≤ r) (h2 : r < 2047 * BB) : double.read r = .number false (BB + r % BB) (-1074 + (r / BB - 1 : Nat)) := by
  unfold Format.read
  simp only [dbl_sign, dbl_binade, dbl_inf, dbl_least]
  have hs : r < 2 ^ 63 := by have : 2047 * BB < 2 ^ 63 := by decide
                             omega
  rw [Nat.mod_eq_of_lt hs, Nat.div_eq_of_lt hs, if_neg (by omega), if_pos h2]
  rfl
theorem read_sub {r : Nat} (h1 : r < BB) : double.read r = .number false r (-1074) := by
  unfold Format.read
  simp only [dbl_sign, dbl_binade, dbl_inf, dbl_least]
  have hs : r < 2 ^ 63 := by have : 2047 * BB < 2 ^ 63 := by decide
                             omega
  rw [Nat.mod_eq_of_lt hs, Nat.div_eq_of_lt hs, if_pos h1]
  rfl

theorem read_le {r k K : Nat} (hK : BB ≤ K) (hK2 : K < 2 * BB) (hi : k * BB + K < 2047 * BB) (h : r ≤ k * BB + K) :
    ∃ m d : Nat, double.read r = .number false m (-1074 + d) ∧ m * 2 ^ d ≤ K * 2 ^ k := by
  by_cases hb : r < BB
  · refine ⟨r, 0, by rw [read_sub hb]; rfl, ?_⟩
    have : 1 ≤ 2 ^ k := Nat.one_le_two_pow
    have := Nat.mul_le_mul (show r ≤ K by omega) this
    simpa using this
  · refine ⟨_, _, read_normal (by omega) (by omega), ?_⟩
    have hm := Nat.div_add_mod r BB
    have hlt := Nat.mod_lt r (show 0 < BB by decide)
    have hq : r / BB ≤ k + 1 := by
      have : r < (k + 2) * BB := by rw [Nat.add_mul]; omega
      have := (Nat.div_lt_iff_lt_mul (show 0 < BB by decide)).2 this
      omega
    have hq1 : 1 ≤ r / BB := (Nat.le_div_iff_mul_le (by decide)).2 (by omega)
    by_cases he : r / BB = k + 1
    · rw [he, Nat.add_sub_cancel]
      apply Nat.mul_le_mul_right
      rw [he, Nat.mul_add, Nat.mul_comm] at hm
      omega
    · have e1 : 2 ^ (r / BB - 1 + 1) ≤ 2 ^ k := Nat.pow_le_pow_right (by decide) (by omega)
      have e2 : (BB + r % BB) * 2 ^ (r / BB - 1) ≤ (2 * BB) * 2 ^ (r / BB - 1) := Nat.mul_le_mul_right _ (by omega)
      have e3 : BB * 2 ^ (r / BB - 1 + 1) ≤ K * 2 ^ k := Nat.mul_le_mul hK e1
      rw [Nat.pow_succ] at e3
      rw [Nat.mul_comm 2 BB, Nat.mul_assoc, Nat.mul_comm 2] at e2
      omega

/-- A whole number rounded: its rung. -/
theorem nearest_int {a : Nat} (h0 : a ≠ 0) (h64 : a < 2 ^ 64) : ∃ c, double.nearest false a 0 = (a.log2 + 1022) * BB + c ∧ c = Toward.even.cut false (a * 2 ^ (52 - a.log2)) (a.log2 - 52) ∧ BB ≤ c ∧ c ≤ 2 * BB ∧ a.log2 < 64 := by
  have hlow : 2 ^ a.log2 ≤ a := Nat.log2_self_le h0
  have hup : a < 2 ^ (a.log2 + 1) := Nat.lt_log2_self
  have hl : a.log2 < 64 := (Nat.pow_lt_pow_iff_right (a := 2) (by decide)).1 (by omega)
  refine ⟨_, ?_, rfl, ?_, ?_, hl⟩
  · unfold Format.nearest
    rw [if_neg h0]
    simp only [Format.word, dbl_least, dbl_binade, dbl_inf, dbl_frac, Bool.false_eq_true, if_false, Nat.shiftLeft_eq]
    have e1 : max (0 + (a.log2 : Int) - ((52 : Nat) : Int)) (-1074) = (a.log2 : Int) - 52 := by omega
    rw [e1, show (0 - ((a.log2 : Int) - 52)).toNat = 52 - a.log2 by omega, show ((a.log2 : Int) - 52 - 0).toNat = a.log2 - 52 by omega, show ((a.log2 : Int) - 52 - -1074).toNat = a.log2 + 1022 by omega]
    apply Nat.min_eq_left
    have hc : Toward.even.cut false (a * 2 ^ (52 - a.log2)) (a.log2 - 52) ≤ 2 * BB := by
      apply cut_even_le
      refine Nat.le_trans (Nat.mul_le_mul_right _ (Nat.le_of_lt hup)) ?_
      rw [← Nat.pow_add, BB_pow, show 2 * 2 ^ 52 = 2 ^ 53 by decide, ← Nat.pow_add]
      exact Nat.pow_le_pow_right (by decide) (by omega)
    have : (a.log2 + 1022) * BB ≤ 1085 * BB := Nat.mul_le_mul_right _ (by omega)
    have hB := BB_pos
    clear hlow hup e1
    omega
  · have hx : a.log2 - 52 ≤ (a * 2 ^ (52 - a.log2)).log2 + 2 := by
      have h1 : a ≤ a * 2 ^ (52 - a.log2) := by
        have := Nat.mul_le_mul_left a (Nat.one_le_two_pow (n := 52 - a.log2)); omega
      have h2 : a.log2 ≤ (a * 2 ^ (52 - a.log2)).log2 := (Nat.le_log2 (by omega)).2 (by omega)
      omega
    apply cut_even_ge hx
    rw [BB_pow, ← Nat.pow_add]
    refine Nat.le_trans ?_ (Nat.mul_le_mul_right _ hlow)
    rw [← Nat.pow_add]
    exact Nat.pow_le_pow_right (by decide) (by omega)
  · apply cut_even_le
    refine Nat.le_trans (Nat.mul_le_mul_right _ (Nat.le_of_lt hup)) ?_
    rw [← Nat.pow_add, BB_pow, show 2 * 2 ^ 52 = 2 ^ 53 by decide, ← Nat.pow_add]
    exact Nat.pow_le_pow_right (by decide) (by omega)

theorem nearest_int_mono {a b : Nat} (h0 : a ≠ 0) (hab : a ≤ b) (h64 : b < 2 ^ 64) : double.nearest false a 0 ≤ double.nearest false b 0 := by
  obtain ⟨c, e1, ec, c1, c2, l1⟩ := nearest_int h0 (show a < 2 ^ 64 by omega)
  obtain ⟨d, e2, ed, d1, d2, l2⟩ := nearest_int (show b ≠ 0 by omega) h64
  rw [e1, e2]
  have hlow : 2 ^ a.log2 ≤ a := Nat.log2_self_le h0
  have hll : a.log2 ≤ b.log2 := (Nat.le_log2 (by omega)).2 (by omega)
  by_cases hl : a.log2 = b.log2
  · rw [hl]
    apply Nat.add_le_add_left
    rw [ec, ed, hl]
    have gl : ∀ x : Nat, x ≠ 0 → x.log2 = b.log2 → b.log2 - 52 ≤ (x * 2 ^ (52 - b.log2)).log2 + 2 := by
      intro x hx hxl
      have h1 : x ≤ x * 2 ^ (52 - b.log2) := by
        have := Nat.mul_le_mul_left x (Nat.one_le_two_pow (n := 52 - b.log2)); omega
      have h2 : x.log2 ≤ (x * 2 ^ (52 - b.log2)).log2 := (Nat.le_log2 (by omega)).2 (Nat.le_trans (Nat.log2_self_le hx) h1)
      omega
    exact cut_even_mono (gl a h0 hl) (gl b (by omega) rfl) (Nat.mul_le_mul_right _ hab)
  · have : (a.log2 + 1022 + 1) * BB ≤ (b.log2 + 1022) * BB := Nat.mul_le_mul_right _ (by omega)
    have e : (a.log2 + 1022 + 1) * BB = (a.log2 + 1022) * BB + BB := by rw [Nat.add_mul _ 1, Nat.one_mul]
    omega

/-- The quotient of whole numbers 1 ≤ a ≤ b is no more than 1. -/
theorem div_le_one {a b : Nat} (h0 : 1 ≤ a) (hab : a ≤ b) (h64 : b < 2 ^ 64) :
    ∃ q, double.div (double.nearest false a 0) (double.nearest false b 0) = some q ∧ q ≤ 1022 * BB + BB := by
  have hmono := nearest_int_mono (show a ≠ 0 by omega) hab h64
  obtain ⟨c, e1, -, c1, c2, l1⟩ := nearest_int (show a ≠ 0 by omega) (show a < 2 ^ 64 by omega)
  obtain ⟨d, e2, -, d1, d2, l2⟩ := nearest_int (show b ≠ 0 by omega) h64
  have ha1 : BB ≤ double.nearest false a 0 := by omega
  have hb2 : double.nearest false b 0 < 2047 * BB := by
    have : (b.log2 + 1022) * BB ≤ 1085 * BB := Nat.mul_le_mul_right _ (by omega)
    have hB := BB_pos
    omega
  clear e1 e2 c1 c2 d1 d2 l1 l2 c d
  generalize double.nearest false a 0 = x at hmono ha1
  generalize double.nearest false b 0 = y at hmono hb2
  unfold Format.div
  rw [read_normal ha1 (by omega), read_normal (by omega) hb2]
  have hx := Nat.div_add_mod x BB
  have hy := Nat.div_add_mod y BB
  have hxl := Nat.mod_lt x (show 0 < BB by decide)
  have hyl := Nat.mod_lt y (show 0 < BB by decide)
  have hx1 : 1 ≤ x / BB := (Nat.le_div_iff_mul_le (by decide)).2 (by omega)
  have hle : x / BB ≤ y / BB := Nat.div_le_div_right hmono
  have hcase : (x / BB - 1 = y / BB - 1 ∧ x % BB ≤ y % BB) ∨ x / BB - 1 < y / BB - 1 := by
    by_cases he : x / BB = y / BB
    · left; rw [he] at hx; omega
    · right; omega
  clear hx hy hx1 hle ha1 hb2 hmono
  generalize x % BB = r at *
  generalize y % BB = t at *
  generalize x / BB - 1 = d1 at *
  generalize y / BB - 1 = d2 at *
  have lm : ∀ r, r < BB → (BB + r).log2 = 52 := by
    intro r hr
    have p1 : (BB + r) ≠ 0 := by omega
    have g1 : 52 ≤ (BB + r).log2 := (Nat.le_log2 p1).2 (by rw [← BB_pow]; omega)
    have g2 : (BB + r).log2 < 53 := (Nat.log2_lt p1).2 (by rw [show 2 ^ 53 = 2 * BB by decide]; omega)
    omega
  simp only [Datum.quotient, lm r hxl, lm t hyl, dbl_frac, Nat.shiftLeft_eq]
  rw [if_neg (by omega)]
  refine ⟨_, rfl, ?_⟩
  simp only [Format.write]
  apply nearest_le (s := d2) (E := d1 + 1019) (by omega) (by decide) (by decide)
  have hn0 : 0 < BB + t := by omega
  have e54 : 52 + 2 + 52 - 52 = 54 := rfl
  rw [e54]
  have one : ∀ b : Bool, b.toNat ≤ 1 := fun b => by cases b <;> decide
  have hq : (2 * ((BB + r) * 2 ^ 54 / (BB + t)) + ((BB + r) * 2 ^ 54 % (BB + t) != 0).toNat) * 2 ^ d1 ≤ 2 ^ 55 * 2 ^ d2 := by
    have hs := one ((BB + r) * 2 ^ 54 % (BB + t) != 0)
    rcases hcase with ⟨rfl, hrt⟩ | hlt
    · apply Nat.mul_le_mul_right
      by_cases hrt2 : r = t
      · subst hrt2
        rw [Nat.mul_div_cancel_left _ hn0, Nat.mul_mod_right]
        decide
      · have hd : (BB + r) * 2 ^ 54 / (BB + t) < 2 ^ 54 := by
          rw [Nat.div_lt_iff_lt_mul hn0, Nat.mul_comm]
          exact Nat.mul_lt_mul_of_pos_left (by omega) (by decide)
        omega
    · have hd : (BB + r) * 2 ^ 54 / (BB + t) < 2 ^ 55 := by
        rw [Nat.div_lt_iff_lt_mul hn0, show 2 ^ 55 = 2 ^ 54 * 2 by decide, Nat.mul_comm, Nat.mul_assoc]
        exact Nat.mul_lt_mul_of_pos_left (by omega) (by decide)
      have e1 : 2 ^ (d1 + 1) ≤ 2 ^ d2 := Nat.pow_le_pow_right (by decide) (by omega)
      refine Nat.le_trans (Nat.mul_le_mul_right _ (show _ ≤ 2 ^ 55 * 2 by omega)) ?_
      rw [Nat.mul_assoc, Nat.mul_comm 2, ← Nat.pow_succ]
      exact Nat.mul_le_mul_left _ e1
  rw [Nat.pow_add, ← Nat.mul_assoc]
  refine Nat.le_trans (Nat.mul_le_mul_right _ hq) ?_
  rw [BB_pow, ← Nat.pow_add, ← Nat.pow_add, ← Nat.pow_add]
  exact Nat.pow_le_pow_right (by decide) (by omega)

/-- What is no more than 1, times a small whole number n, is no more than n. -/
theorem mul_le_int {q n : Nat} (hq : q ≤ 1022 * BB + BB) (hn : n ≤ 2 ^ 50) :
    ∃ p m d : Nat, double.mul q (double.nearest false n 0) = some p ∧ double.read p = .number false m (-1074 + d) ∧ m * 2 ^ d ≤ n * 2 ^ 1074 := by
  obtain ⟨mq, dq, rq, lq⟩ := read_le (k := 1022) (K := BB) (by decide) (by decide) (by decide) hq
  unfold Format.mul
  rw [rq]
  by_cases h0 : n = 0
  · subst h0
    rw [show double.nearest false 0 0 = 0 from rfl, read_sub (show 0 < BB by decide)]
    simp only [Datum.product, Nat.mul_zero]
    refine ⟨_, 0, 0, rfl, ?_, by simp⟩
    exact read_sub (show 0 < BB by decide)
  · obtain ⟨c, e1, ec, c1, c2, l1⟩ := nearest_int h0 (show n < 2 ^ 64 by omega)
    have hlow : 2 ^ n.log2 ≤ n := Nat.log2_self_le h0
    have hup : n < 2 ^ (n.log2 + 1) := Nat.lt_log2_self
    have hl : n.log2 < 51 := (Nat.pow_lt_pow_iff_right (a := 2) (by decide)).1 (by omega)
    rw [show n.log2 - 52 = 0 by omega, cut_even_zero] at ec
    have hc : c < 2 * BB := by
      rw [ec, show 2 * BB = 2 ^ 53 by decide]
      refine Nat.lt_of_lt_of_le (Nat.mul_lt_mul_of_pos_right hup (Nat.two_pow_pos _)) ?_
      rw [← Nat.pow_add]
      exact Nat.pow_le_pow_right (by decide) (by omega)
    have hi : (n.log2 + 1022) * BB + c < 2047 * BB := by
      have : (n.log2 + 1022) * BB ≤ 1085 * BB := Nat.mul_le_mul_right _ (by omega)
      have hB := BB_pos
      omega
    have hval : c * 2 ^ (n.log2 + 1022) = n * 2 ^ 1074 := by
      rw [ec, Nat.mul_assoc, ← Nat.pow_add, show 52 - n.log2 + (n.log2 + 1022) = 1074 by omega]
    obtain ⟨mn, dn, rn, ln⟩ := read_le c1 hc hi (Nat.le_of_eq e1)
    rw [rn]
    simp only [Datum.product, Option.map_some, Format.write]
    have hp : double.nearest false (mq * mn) (-1074 + (dq : Int) + (-1074 + (dn : Int))) ≤ (n.log2 + 1022) * BB + c := by
      apply nearest_le (s := 1074) (E := dq + dn) (by omega) c1 hc
      have := Nat.mul_le_mul lq ln
      rw [Nat.pow_add _ dq dn, show mq * mn * (2 ^ dq * 2 ^ dn) = mq * 2 ^ dq * (mn * 2 ^ dn) by
        rw [Nat.mul_assoc, Nat.mul_assoc, ← Nat.mul_assoc mn, ← Nat.mul_assoc (2 ^ dq), Nat.mul_comm mn (2 ^ dq), ]]
      refine Nat.le_trans this (Nat.le_of_eq ?_)
      rw [Nat.pow_add 2 (n.log2 + 1022) 1074, BB_pow, ← Nat.pow_add 2 52, ← Nat.mul_assoc, Nat.mul_comm (2 ^ (52 + 1022)), Nat.mul_assoc, Nat.mul_comm (2 ^ (52 + 1022))]
    obtain ⟨mp, dp, rp, lp⟩ := read_le c1 hc hi hp
    refine ⟨_, mp, dp, rfl, rp, ?_⟩
    rw [← hval]; exact lp

/-- The guess: in range. -/
theorem guess (a b n : Nat) (h0 : 1 ≤ a) (hab : a ≤ b) (h64 : b < 2 ^ 64) (hn : n ≤ 2 ^ 50) :
    ∃ q p t : Nat, floatBits .quo .f64 (floatOfInt .f64 (a : Int)) (floatOfInt .f64 (b : Int)) = some q ∧ floatBits .mul .f64 q (floatOfInt .f64 (n : Int)) = some p ∧ floatToIntVal .f64 p .i64 = some (t : Int) ∧ t ≤ n := by
  have ef : ∀ m : Nat, floatOfInt .f64 (m : Int) = double.nearest false m 0 := by
    intro m
    simp only [floatOfInt, FloatKind.nearest, FloatKind.encode, FloatKind.format, Format.write, Int.natAbs_natCast]
    congr 1
  rw [ef a, ef b, ef n]
  obtain ⟨q, eq, lq⟩ := div_le_one h0 hab h64
  obtain ⟨p, m, d, ep, rp, lp⟩ := mul_le_int lq hn
  refine ⟨q, p, Toward.zero.cut false (m * 2 ^ ((-1074 : Int) + d).toNat) (-((-1074 : Int) + d)).toNat, eq, ep, ?_, ?_⟩
  all_goals
    have hc : Toward.zero.cut false (m * 2 ^ ((-1074 : Int) + d).toNat) (-((-1074 : Int) + d)).toNat ≤ n := by
      apply cut_zero_le
      by_cases hd : 1074 ≤ d
      · rw [show (-((-1074 : Int) + d)).toNat = 0 by omega, Nat.pow_zero, Nat.mul_one]
        rw [show d = ((-1074 : Int) + d).toNat + 1074 by omega, Nat.pow_add _ _ 1074, ← Nat.mul_assoc] at lp
        exact Nat.le_of_mul_le_mul_right lp (Nat.two_pow_pos _)
      · rw [show ((-1074 : Int) + d).toNat = 0 by omega, Nat.pow_zero, Nat.mul_one]
        have e : n * 2 ^ 1074 = n * 2 ^ (-((-1074 : Int) + d)).toNat * 2 ^ d := by
          rw [Nat.mul_assoc, ← Nat.pow_add, show (-((-1074 : Int) + d)).toNat + d = 1074 by omega]
        rw [e] at lp
        exact Nat.le_of_mul_le_mul_right lp (Nat.two_pow_pos _)
  · unfold floatToIntVal
    simp only [FloatKind.decode, FloatKind.format, rp, Datum.toInt, Datum.integral, signed, Nat.shiftLeft_eq, Bool.false_eq_true, if_false, Nat.pow_zero, Nat.mul_one]
    rw [if_pos]
    constructor
    · refine Int.le_trans (show IntKind.min .i64 ≤ 0 by decide) (by omega)
    · refine Int.le_trans (b := (2 : Int) ^ 50) ?_ (by decide)
      have : ((2 : Int) ^ 50) = ((2 ^ 50 : Nat) : Int) := by decide
      omega
  · exact hc
end Go.Proofs.Qxb6605205aMods
