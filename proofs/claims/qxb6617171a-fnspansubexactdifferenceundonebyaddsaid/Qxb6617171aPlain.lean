namespace Go.Proofs.Qxb6617171a

/-- The high word of N, read in 128 bits of two's complement. -/
def hiW (N : Int) : Int := N / 18446744073709551616 % 18446744073709551616
/-- The low word of N. -/
def loW (N : Int) : Int := N % 18446744073709551616

theorem hiW_bd (N : Int) : 0 ≤ hiW N ∧ hiW N < 18446744073709551616 := by unfold hiW; omega
theorem loW_bd (N : Int) : 0 ≤ loW N ∧ loW N < 18446744073709551616 := by unfold loW; omega
theorem hiW_small (N : Int) (h0 : 0 ≤ N) (h1 : N < 18446744073709551616) : hiW N = 0 := by unfold hiW; omega
theorem loW_small (N : Int) (h0 : 0 ≤ N) (h1 : N < 18446744073709551616) : loW N = N := by unfold loW; omega

theorem mul_bd (a b m : Int) (h1 : 0 ≤ a) (h2 : a ≤ m) (h3 : 0 ≤ b) (h4 : b ≤ m) : 0 ≤ a * b ∧ a * b ≤ m * m :=
  ⟨Int.mul_nonneg h1 h3, Int.mul_le_mul h2 h4 h3 (by omega)⟩

theorem expand (x1 x0 y1 y0 m : Int) : (m * x1 + x0) * (m * y1 + y0) = m * m * (x1 * y1) + m * (x1 * y0) + m * (x0 * y1) + x0 * y0 := by
  simp only [Int.add_mul, Int.mul_add, Int.mul_assoc, Int.mul_left_comm, Int.add_assoc]
  have : x0 * (m * y1) = m * (x0 * y1) := by rw [← Int.mul_assoc, Int.mul_comm x0 m, Int.mul_assoc]
  omega

/-- Schoolbook: the high word of a product, out of the halves' products, no step wrapping. -/
theorem school (x y : Int) (hx : 0 ≤ x) (hx' : x < 18446744073709551616) (hy : 0 ≤ y) (hy' : y < 18446744073709551616) :
    ((x / 4294967296) * (y / 4294967296)
      + ((x / 4294967296) * (y % 4294967296) + (x % 4294967296) * (y % 4294967296) / 4294967296) / 4294967296
      + (((x / 4294967296) * (y % 4294967296) + (x % 4294967296) * (y % 4294967296) / 4294967296) % 4294967296 + (x % 4294967296) * (y / 4294967296)) / 4294967296) = hiW (x * y) := by
  have e : x * y = 4294967296 * 4294967296 * ((x / 4294967296) * (y / 4294967296)) + 4294967296 * ((x / 4294967296) * (y % 4294967296)) + 4294967296 * ((x % 4294967296) * (y / 4294967296)) + (x % 4294967296) * (y % 4294967296) := by
    rw [← expand]; congr 1 <;> omega
  have b1 := mul_bd (x / 4294967296) (y / 4294967296) 4294967295 (by omega) (by omega) (by omega) (by omega)
  have b2 := mul_bd (x / 4294967296) (y % 4294967296) 4294967295 (by omega) (by omega) (by omega) (by omega)
  have b3 := mul_bd (x % 4294967296) (y / 4294967296) 4294967295 (by omega) (by omega) (by omega) (by omega)
  have b4 := mul_bd (x % 4294967296) (y % 4294967296) 4294967295 (by omega) (by omega) (by omega) (by omega)
  unfold hiW
  rw [e]
  generalize (x / 4294967296) * (y / 4294967296) = p at *
  generalize (x / 4294967296) * (y % 4294967296) = q at *
  generalize (x % 4294967296) * (y / 4294967296) = r at *
  generalize (x % 4294967296) * (y % 4294967296) = s at *
  clear e hx hx' hy hy'
  omega

theorem add_hi (A B : Int) : (hiW A + hiW B + (loW A + loW B) / 18446744073709551616) % 18446744073709551616 = hiW (A + B) := by unfold hiW loW; omega
theorem add_lo (A B : Int) : (loW A + loW B) % 18446744073709551616 = loW (A + B) := by unfold loW; omega

/-- Go's quotient and remainder, cut towards nought, against the floored pair, for a positive divisor. -/
theorem floor_up (t d : Int) (hd : 0 < d) (h : 0 ≤ t.tmod d) : t.tdiv d = t / d ∧ t.tmod d = t % d := by
  have h1 := Int.tdiv_eq_ediv (a := t) (b := d)
  have h2 := Int.tmod_eq_emod (a := t) (b := d)
  have h3 := Int.emod_lt_of_pos t hd
  by_cases c : 0 ≤ t ∨ d ∣ t
  · rw [if_pos c] at h1 h2; constructor <;> omega
  · rw [if_neg c] at h2; omega
theorem floor_down (t d : Int) (hd : 0 < d) (h : t.tmod d < 0) : t.tdiv d - 1 = t / d ∧ t.tmod d + d = t % d := by
  have h1 := Int.tdiv_eq_ediv (a := t) (b := d)
  have h2 := Int.tmod_eq_emod (a := t) (b := d)
  have h3 := Int.emod_nonneg t (Int.ne_of_gt hd)
  by_cases c : 0 ≤ t ∨ d ∣ t
  · rw [if_pos c] at h2; omega
  · rw [if_neg c] at h1 h2
    have : Int.sign d = 1 := Int.sign_eq_one_of_pos hd
    constructor <;> omega
theorem ediv_bd (t d : Int) (hd : 0 < d) (h1 : -9223372036854775808 ≤ t) (h2 : t ≤ 9223372036854775807) : -9223372036854775808 ≤ t / d ∧ t / d ≤ 9223372036854775807 := by
  constructor
  · apply Int.le_ediv_of_mul_le hd
    have : d * -9223372036854775808 ≤ 1 * -9223372036854775808 := Int.mul_le_mul_of_nonpos_right (by omega) (by omega)
    rw [Int.mul_comm]; omega
  · apply Int.ediv_le_of_le_mul hd
    have : 1 * 9223372036854775807 ≤ d * 9223372036854775807 := Int.mul_le_mul_of_nonneg_right (by omega) (by omega)
    rw [Int.mul_comm]; omega
theorem tdiv_bd (t d : Int) (hd : 0 < d) (h1 : -9223372036854775808 ≤ t) (h2 : t ≤ 9223372036854775807) : -9223372036854775808 ≤ t.tdiv d ∧ t.tdiv d ≤ 9223372036854775807 := by
  have h := ediv_bd t d hd h1 h2
  by_cases c : 0 ≤ t.tmod d
  · rw [(floor_up t d hd c).1]; exact h
  · have e := (floor_down t d hd (by omega)).1
    have n : t < 0 := by
      by_cases c' : 0 ≤ t
      · exact absurd (Int.tmod_nonneg d c') c
      · omega
    have n' := Int.ediv_neg_of_neg_of_pos n hd
    omega
theorem tmod_bd (t d : Int) (hd : 0 < d) : -d ≤ t.tmod d ∧ t.tmod d < d := by
  have h3 := Int.emod_nonneg t (Int.ne_of_gt hd)
  have h4 := Int.emod_lt_of_pos t hd
  by_cases c : 0 ≤ t.tmod d
  · have := floor_up t d hd c; omega
  · have := floor_down t d hd (by omega); omega
theorem step_q (t d : Int) (hd : 0 < d) : (t + d) / d = t / d + 1 := by
  rw [Int.add_ediv_of_dvd_right (Int.dvd_refl d), Int.ediv_self (by omega)]
theorem step_r (t d : Int) : (t + d) % d = t % d := by simp
/-- The pair of the complement. -/
theorem compl_pair (t d : Int) (hd : 0 < d) : (-t - 1) / d = - (t / d) - 1 ∧ (-t - 1) % d = d - 1 - t % d := by
  have h1 := Int.emod_lt_of_pos t hd
  have h2 := Int.emod_nonneg t (Int.ne_of_gt hd)
  have h3 := Int.mul_ediv_add_emod t d
  have h4 : (-(t / d) - 1) * d = - (d * (t / d)) - d := by
    rw [Int.sub_mul, Int.neg_mul, Int.mul_comm]; omega
  have h5 : (-t - 1) = (d - 1 - t % d) + (-(t / d) - 1) * d := by rw [h4]; omega
  constructor
  · rw [h5, Int.add_mul_ediv_right _ _ (by omega), Int.ediv_eq_zero_of_lt (by omega) (by omega)]; omega
  · rw [h5, Int.add_mul_emod_self_right, Int.emod_eq_of_lt (by omega) (by omega)]
end Go.Proofs.Qxb6617171a
