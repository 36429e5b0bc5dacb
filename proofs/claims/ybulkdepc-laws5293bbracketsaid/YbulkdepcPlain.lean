namespace Go.Proofs.Ybulkdepc
/-! Plain arithmetic of the floor quotient: no Go here. -/
theorem floor_lo (a b : Int) (hb : 1 ≤ b) : a / b * b ≤ a := Int.ediv_mul_le a (by omega)
theorem floor_hi (a b : Int) (hb : 1 ≤ b) : a < a / b * b + b := by
  have h := Int.lt_ediv_add_one_mul_self a (show (0 : Int) < b by omega)
  rw [Int.add_mul] at h; omega
theorem floor_uniq (a b q : Int) (hb : 1 ≤ b) (h1 : q * b ≤ a) (h2 : a < q * b + b) : a / b = q := by
  have e : a = (a - q * b) + q * b := by omega
  rw [e, Int.add_mul_ediv_right _ _ (by omega), Int.ediv_eq_zero_of_lt (by omega) (by omega)]; omega
theorem floor_neg (a b : Int) (hb : 1 ≤ b) (ha : a < 0) : (a - b + 1).tdiv b = a / b := by
  have h1 := floor_lo a b hb
  have h2 := floor_hi a b hb
  have e : a - b + 1 = -(b - 1 - a) := by omega
  have e2 : (b - 1 - a) / b = -(a / b) := floor_uniq _ _ _ hb (by rw [Int.neg_mul]; omega) (by rw [Int.neg_mul]; omega)
  rw [e, Int.neg_tdiv, Int.tdiv_eq_ediv_of_nonneg (by omega), e2]; omega
theorem floor_bd (a b : Int) (hb : 1 ≤ b) (h1 : -2199023255552 ≤ a) (h2 : a ≤ 2199023255552) : -2199023255552 ≤ a / b ∧ a / b ≤ 2199023255552 := by
  have l := floor_lo a b hb
  have h := floor_hi a b hb
  constructor
  · apply Int.not_lt.mp; intro hc
    have := Int.mul_le_mul_of_nonneg_right (show a / b + 1 ≤ -2199023255552 by omega) (show (0 : Int) ≤ b by omega)
    rw [Int.add_mul] at this; omega
  · apply Int.not_lt.mp; intro hc
    have := Int.mul_le_mul_of_nonneg_right (show (2199023255553 : Int) ≤ a / b by omega) (show (0 : Int) ≤ b by omega)
    omega
/-- the textbook route: truncate, then one down where a is negative and the division leaves a remainder -/
theorem floor_trunc_exact (a b : Int) (hb : 1 ≤ b) (h : a.tmod b = 0) : a.tdiv b = a / b := by
  have e := Int.mul_tdiv_add_tmod a b
  rw [h, Int.mul_comm] at e
  exact (floor_uniq a b _ hb (by omega) (by omega)).symm
theorem floor_trunc_pos (a b : Int) (ha : 0 ≤ a) : a.tdiv b = a / b := Int.tdiv_eq_ediv_of_nonneg ha
theorem floor_trunc_neg (a b : Int) (hb : 1 ≤ b) (ha : a < 0) (h : a.tmod b ≠ 0) : a.tdiv b - 1 = a / b := by
  have e := Int.mul_tdiv_add_tmod a b
  rw [Int.mul_comm] at e
  have e1 : a.tmod b = -((-a).tmod b) := by rw [Int.neg_tmod]; omega
  have e2 : 0 ≤ (-a).tmod b := Int.tmod_nonneg _ (by omega)
  have e3 : (-a).tmod b < b := Int.tmod_lt_of_pos _ (by omega)
  exact (floor_uniq a b _ hb (by rw [Int.sub_mul]; omega) (by rw [Int.sub_mul]; omega)).symm
end Go.Proofs.Ybulkdepc
