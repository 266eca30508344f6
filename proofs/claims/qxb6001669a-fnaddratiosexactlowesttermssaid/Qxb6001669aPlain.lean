namespace Go.Proofs.Qxb6001669a

/-! The plain law: a/b + c/d in lowest terms. Nothing here knows of the walk. -/
theorem gcd_pos {a b : Int} (h : b ≠ 0) : 0 < (Int.gcd a b : Int) := by
  have := Int.gcd_pos_of_ne_zero_right a h
  omega

theorem mul_bd {x y A B : Int} (h1 : -A ≤ x) (h2 : x ≤ A) (h3 : 0 ≤ y) (h4 : y ≤ B) (hA : 0 ≤ A) : -(A * B) ≤ x * y ∧ x * y ≤ A * B := by
  have a1 : x * y ≤ A * y := Int.mul_le_mul_of_nonneg_right h2 h3
  have a2 : A * y ≤ A * B := Int.mul_le_mul_of_nonneg_left h4 hA
  have a3 : -A * y ≤ x * y := Int.mul_le_mul_of_nonneg_right h1 h3
  have e : -A * y = -(A * y) := Int.neg_mul A y
  rw [e] at a3
  exact ⟨by omega, by omega⟩

/-- Lowest terms. -/
theorem lowest (s den : Int) (hden : 0 < den) :
    (s / (Int.gcd s den : Int)) * (Int.gcd s den : Int) = s ∧ (den / (Int.gcd s den : Int)) * (Int.gcd s den : Int) = den ∧ 0 < den / (Int.gcd s den : Int) ∧ Int.gcd (s / (Int.gcd s den : Int)) (den / (Int.gcd s den : Int)) = 1 := by
  have hg := gcd_pos (a := s) (b := den) (by omega)
  have e1 : (s / (Int.gcd s den : Int)) * (Int.gcd s den : Int) = s := Int.ediv_mul_cancel (Int.gcd_dvd_left ..)
  have e2 : (den / (Int.gcd s den : Int)) * (Int.gcd s den : Int) = den := Int.ediv_mul_cancel (Int.gcd_dvd_right ..)
  refine ⟨e1, e2, ?_, Int.gcd_ediv_gcd_ediv_gcd (by omega)⟩
  exact Int.ediv_pos_of_pos_of_dvd hden (by omega) (Int.gcd_dvd_right ..)

theorem cross (s den X Y num dn h : Int) (hh : h ≠ 0) (h1 : s * X = Y * den) (e1 : num * h = s) (e2 : dn * h = den) : num * X = Y * dn := by
  subst e1; subst e2
  refine Int.eq_of_mul_eq_mul_right hh ?_
  calc num * X * h = num * h * X := by rw [Int.mul_assoc, Int.mul_comm X h, ← Int.mul_assoc]
    _ = Y * (dn * h) := h1
    _ = Y * dn * h := by rw [Int.mul_assoc]

/-- The sum over the common denominator. -/
theorem common (a b c d g : Int) (hb : b / g * g = b) (hd : d / g * g = d) :
    (a * (d / g) + c * (b / g)) * (b * d) = (a * d + c * b) * (b / g * d) := by
  have e1 : (a * (d / g) + c * (b / g)) * g = a * d + c * b := by
    rw [Int.add_mul, Int.mul_assoc, hd, Int.mul_assoc, hb]
  have e2 : b / g * d * g = b * d := by rw [Int.mul_assoc, Int.mul_comm d g, ← Int.mul_assoc, hb]
  rw [← e2, ← e1, Int.mul_assoc _ g, Int.mul_comm g (b / g * d)]
theorem common_same (a b c : Int) : (a + c) * (b * b) = (a * b + c * b) * b := by
  rw [← Int.add_mul, ← Int.mul_assoc]

theorem abs_div_le (s h : Int) (hh : 0 < h) (M : Int) (h1 : -M ≤ s) (h2 : s ≤ M) (_hM : 0 ≤ M) (e : s / h * h = s) : -M ≤ s / h ∧ s / h ≤ M := by
  have h1' : 1 ≤ h := hh
  constructor
  · by_cases hn : s / h < 0
    · have : s / h * h ≤ s / h * 1 := Int.mul_le_mul_of_nonpos_left (by omega) h1'
      omega
    · omega
  · by_cases hn : 0 < s / h
    · have : s / h * 1 ≤ s / h * h := Int.mul_le_mul_of_nonneg_left h1' (by omega)
      omega
    · omega
end Go.Proofs.Qxb6001669a
