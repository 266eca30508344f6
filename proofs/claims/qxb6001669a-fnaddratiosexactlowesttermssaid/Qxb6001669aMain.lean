import Derived.Test.Qxb6001669aWalks
namespace Go.Proofs.Qxb6001669a
open Go.RowKit

set_option maxHeartbeats 1000000 in
theorem zzAdd_any (a b c d : Int) (w : World) (ha1 : -32768 ≤ a) (ha2 : a ≤ 32768) (hb1 : 1 ≤ b) (hb2 : b ≤ 32768) (hc1 : -32768 ≤ c) (hc2 : c ≤ 32768) (hd1 : 1 ≤ d) (hd2 : d ≤ 32768) :
    Calls Try.prog 8 #[.int .i64 a, .int .i64 b, .int .i64 c, .int .i64 d] w fun e w' => ∃ s den : Int, e = .returned (.tuple #[.agg #[.int .i64 (s / (Int.gcd s den : Int)), .int .i64 (den / (Int.gcd s den : Int)), .pointer none], .bool true]) ∧
      s * (b * d) = (a * d + c * b) * den ∧ 1 ≤ den ∧ den ≤ 1073741824 ∧ -2147483648 ≤ s ∧ s ≤ 2147483648 ∧ Below w.heap.size w w' := by
  have R : ∀ w, Calls Try.prog 17 #[.int .i64 a, .int .i64 b, .int .i64 c, .int .i64 d] w fun e w' => ∃ s den : Int, e = .returned (.tuple #[.agg #[.int .i64 (s / (Int.gcd s den : Int)), .int .i64 (den / (Int.gcd s den : Int)), .pointer none], .bool true]) ∧
      s * (b * d) = (a * d + c * b) * den ∧ 1 ≤ den ∧ den ≤ 1073741824 ∧ -2147483648 ≤ s ∧ s ≤ 2147483648 ∧ Below w.heap.size w w' := by
    intro w
    by_cases h : b = d
    · subst h; exact addRatios_same a b c w ha1 ha2 hb1 hb2 hc1 hc2
    · exact addRatios_any a b c d w ha1 ha2 hb1 hb2 hc1 hc2 hd1 hd2 (by simpa using h)
  go_enter Try.func8, Try.ntmps8
  go_wp2_with (go_at_call 17; refine (R _).mono ?_; rintro e w1 ⟨s, den, rfl, hE, hx1, hx2, hx3, hx4, hbel⟩; obtain ⟨c0, c1, c2, f0, f1, f2, hs1⟩ := slot_later0 hbel; have HE : Hid (s * (b * d) = (a * d + c * b) * den) := hE; clear hE)
  refine bodyPost_ret (v := .tuple #[.agg #[.int .i64 (s / (Int.gcd s den : Int)), .int .i64 (den / (Int.gcd s den : Int)), .pointer none], .bool true]) (by simp [results, Try.results8, go_sem, c0, c1, c2]) rfl ⟨s, den, rfl, HE.out, hx1, hx2, hx3, hx4, ?_⟩
  have hBw : Below w.heap.size w w1 := ((Below.refl _ _).alloc (Nat.le_refl _) _).trans (hbel.mono (by simp))
  exact ((hBw.setCell (Nat.le_refl _) _).setCell (Nat.le_refl _) _).setCell (Nat.le_refl _) _

set_option maxHeartbeats 1000000 in
theorem ratio_any (n d : Int) (w : World) (hd : 1 ≤ d) :
    Calls Try.prog 18 #[.agg #[.int .i64 n, .int .i64 d, .pointer none]] w fun e w' => e = .returned (.tuple #[.int .i64 n, .int .i64 d, .bool true]) ∧ Below w.heap.size w w' := by
  go_enter Try.func18, Try.ntmps18
  go_wp2
  go_region
  go_wp2
  go_ret3
  exact ⟨rfl, ((Below.refl _ _).alloc (Nat.le_refl _) _).drew⟩

set_option maxHeartbeats 1000000 in
theorem zzRatio_any (n d : Int) (w : World) (hd : 1 ≤ d) :
    Calls Try.prog 9 #[.agg #[.int .i64 n, .int .i64 d, .pointer none]] w fun e w' => e = .returned (.tuple #[.int .i64 n, .int .i64 d, .bool true]) ∧ Below w.heap.size w w' := by
  go_enter Try.func9, Try.ntmps9
  go_wp2_with (go_at_call 18; refine (ratio_any _ _ _ hd).mono ?_; rintro e w1 ⟨rfl, hbel⟩)
  go_ret3
  exact ⟨rfl, ((Below.refl _ _).alloc (Nat.le_refl _) _).trans (hbel.mono (by simp))⟩

theorem ret_eq {a b : Int} (h : a = b) : Ending.returned (.bool (a == b)) = .returned (.bool true) := by rw [h]; simp

set_option maxHeartbeats 2000000 in
theorem main_in (a b c d : Int) (w : World) (ha1 : -32768 ≤ a) (ha2 : a ≤ 32768) (hb1 : 1 ≤ b) (hb2 : b ≤ 32768) (hc1 : -32768 ≤ c) (hc2 : c ≤ 32768) (hd1 : 1 ≤ d) (hd2 : d ≤ 32768) :
    Calls Try.prog 3 #[.int .i64 a, .int .i64 b, .int .i64 c, .int .i64 d] w fun e w' => e = .returned (.bool true) ∧ Below w.heap.size w w' := by
  have Z := zzAdd_any a b c d w ha1 ha2 hb1 hb2 hc1 hc2 hd1 hd2
  have m1 := mul_bd (A := 32768) (B := 32768) (x := b) (y := d) (by omega) hb2 (by omega) hd2 (by omega)
  have m2 := mul_bd (A := 32768) (B := 32768) (x := a) (y := d) ha1 ha2 (by omega) hd2 (by omega)
  have m3 := mul_bd (A := 32768) (B := 32768) (x := c) (y := b) hc1 hc2 (by omega) hb2 (by omega)
  have m0 : 0 < b * d := Int.mul_pos (by omega) (by omega)
  obtain ⟨m1a, m1b⟩ := m1
  obtain ⟨m2a, m2b⟩ := m2
  obtain ⟨m3a, m3b⟩ := m3
  go_enter Try.func3, Try.ntmps3
  go_wp2_with fail
  refine Z.mono ?_
  rintro e w1 ⟨s, den, rfl, hE, hx1, hx2, hx3, hx4, hbel⟩
  obtain ⟨l1, l2, l3, l4⟩ := lowest s den (by omega)
  have hg := gcd_pos (a := s) (b := den) (by omega)
  have hN := cross s den (b * d) (a * d + c * b) _ _ _ (by omega) hE l1 l2
  have n1 := abs_div_le s _ hg 2147483648 (by omega) (by omega) (by omega) l1
  have n2 := abs_div_le den _ hg 1073741824 (by omega) (by omega) (by omega) l2
  generalize s / (Int.gcd s den : Int) = num at l1 l4 hN n1
  generalize den / (Int.gcd s den : Int) = dn at l2 l3 l4 hN n2
  clear l1 l2 hE hx1 hx2 hx3 hx4 hg Z
  have HN : Hid (num * (b * d) = (a * d + c * b) * dn) := hN
  have HG : Hid (Int.gcd num dn = 1) := l4
  have p1 := mul_bd (A := 2147483648) (B := 1073741824) (x := num) (y := b * d) (by omega) (by omega) (by omega) (by omega) (by omega)
  have p2 := mul_bd (A := 2147483648) (B := 1073741824) (x := a * d + c * b) (y := dn) (by omega) (by omega) (by omega) (by omega) (by omega)
  clear hN l4
  go_wp2_with (first | (go_at_call 9; refine (zzRatio_any _ _ _ (by omega)).mono ?_; rintro e w2 ⟨rfl, hbel2⟩) | (go_at_call 10; refine (g1gcd_any _ _ _ (by omega) (by omega) (by omega) (by omega)).mono ?_; rintro e w3 ⟨rfl, rfl⟩; rw [HG.out]))
  go_ret
  exact ⟨ret_eq HN.out, (hbel.alloc hbel.size _).trans (hbel2.mono (by have := hbel.size; simp; omega))⟩

set_option maxHeartbeats 2000000 in
theorem main_out (a b c d : Int) (w : World)
    (h : a < -32768 ∨ (¬ a < -32768 ∧ 32768 < a) ∨ (¬ a < -32768 ∧ ¬ 32768 < a ∧ c < -32768) ∨ (¬ a < -32768 ∧ ¬ 32768 < a ∧ ¬ c < -32768 ∧ 32768 < c) ∨ (¬ a < -32768 ∧ ¬ 32768 < a ∧ ¬ c < -32768 ∧ ¬ 32768 < c ∧ b < 1) ∨
      (¬ a < -32768 ∧ ¬ 32768 < a ∧ ¬ c < -32768 ∧ ¬ 32768 < c ∧ ¬ b < 1 ∧ 32768 < b) ∨ (¬ a < -32768 ∧ ¬ 32768 < a ∧ ¬ c < -32768 ∧ ¬ 32768 < c ∧ ¬ b < 1 ∧ ¬ 32768 < b ∧ d < 1) ∨
      (¬ a < -32768 ∧ ¬ 32768 < a ∧ ¬ c < -32768 ∧ ¬ 32768 < c ∧ ¬ b < 1 ∧ ¬ 32768 < b ∧ ¬ d < 1 ∧ 32768 < d)) :
    Calls Try.prog 3 #[.int .i64 a, .int .i64 b, .int .i64 c, .int .i64 d] w fun e w' => e = .returned (.bool true) ∧ Below w.heap.size w w' := by
  rcases h with h1 | ⟨h1, h2⟩ | ⟨h1, h2, h3⟩ | ⟨h1, h2, h3, h4⟩ | ⟨h1, h2, h3, h4, h5⟩ | ⟨h1, h2, h3, h4, h5, h6⟩ | ⟨h1, h2, h3, h4, h5, h6, h7⟩ | ⟨h1, h2, h3, h4, h5, h6, h7, h8⟩
  all_goals
    go_enter Try.func3, Try.ntmps3
    go_wp2
    go_ret
    exact ⟨rfl, Below.refl _ _⟩

theorem main_any (a b c d : Int) (w : World) :
    Calls Try.prog 3 #[.int .i64 a, .int .i64 b, .int .i64 c, .int .i64 d] w fun e w' => e = .returned (.bool true) ∧ Below w.heap.size w w' := by
  by_cases h : -32768 ≤ a ∧ a ≤ 32768 ∧ -32768 ≤ c ∧ c ≤ 32768 ∧ 1 ≤ b ∧ b ≤ 32768 ∧ 1 ≤ d ∧ d ≤ 32768
  · obtain ⟨h1, h2, h3, h4, h5, h6, h7, h8⟩ := h
    exact main_in a b c d w h1 h2 h5 h6 h3 h4 h7 h8
  · exact main_out a b c d w (by omega)
end Go.Proofs.Qxb6001669a
