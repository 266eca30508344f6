import Derived.Test.Qxb6001669aProg
import Derived.Test.Qxb6001669aPlain
import Derived.WalkKit
import Derived.WalkSpells
import Derived.WalkLawsBesides
import Derived.Deep.QuietTactic
import Derived.BigQuiet
namespace Go.Proofs.Qxb6001669a
open Go.RowKit

theorem ret_int {k : IntKind} {a b : Int} (h : a = b) : Ending.returned (.int k a) = .returned (.int k b) := by rw [h]

theorem abs_any (a : Int) (w : World) (h1 : -4294967296 ≤ a) (h2 : a ≤ 4294967296) : Calls Try.prog 25 #[.int .i64 a] w fun e w' => e = .returned (.int .u64 a.natAbs) ∧ w = w' := by
  by_cases hn : a < 0
  · go_enter Try.func25, Try.ntmps25
    go_wp2
    go_ret
    exact ⟨ret_int (by omega), rfl⟩
  · go_enter Try.func25, Try.ntmps25
    go_wp2
    go_ret
    exact ⟨ret_int (by omega), rfl⟩

theorem g1abs_any (a : Int) (w : World) (h1 : -4294967296 ≤ a) (h2 : a ≤ 4294967296) : Calls Try.prog 19 #[.int .i64 a] w fun e w' => e = .returned (.int .i64 a.natAbs) ∧ w = w' := by
  by_cases hn : a < 0
  · go_enter Try.func19, Try.ntmps19
    go_wp2
    go_ret
    exact ⟨ret_int (by omega), rfl⟩
  · go_enter Try.func19, Try.ntmps19
    go_wp2
    go_ret
    exact ⟨ret_int (by omega), rfl⟩

set_option maxHeartbeats 400000 in
theorem gcd_any (a b : Int) (w : World) (h1 : -4294967296 ≤ a) (h2 : a ≤ 4294967296) (h3 : 1 ≤ b) (h4 : b ≤ 4294967296) :
    Calls Try.prog 22 #[.int .i64 a, .int .i64 b] w fun e w' => e = .returned (.int .i64 (Int.gcd a b)) ∧ ∃ n, w' = w.drewN n := by
  go_enter Try.func22, Try.ntmps22
  go_wp2_with (go_at_call 25; refine (abs_any _ _ (by omega) (by omega)).mono ?_; rintro e w' ⟨rfl, rfl⟩)
  go_loopw [5, 6] (fun x y wr => ∃ X Y n : Nat, x = .int .u64 X ∧ y = .int .u64 Y ∧ X ≤ 4294967296 ∧ Y ≤ 4294967296 ∧ Nat.gcd X Y = Int.gcd a b ∧ wr = w.drewN n) (fun _ y _ => (intOf y).toNat)
  case atStart => exact ⟨a.natAbs, b.natAbs, 0, rfl, rfl, by omega, by omega, rfl, rfl⟩
  case round =>
    obtain ⟨X, Y, n, rfl, rfl, hX, hY, hG, rfl⟩ := hrel
    have HG : Hid (Nat.gcd X Y = Int.gcd a b) := hG
    clear hG
    by_cases h0 : Y = 0
    · subst h0
      have HX : Hid (X = Int.gcd a b) := by have := HG.out; rw [Nat.gcd_zero_right] at this; exact this
      have hX1 : 1 ≤ X := by have := HX.out; have := gcd_pos (a := a) (b := b) (by omega); omega
      go_wp2
      go_ret
      exact ⟨ret_int (by rw [← HX.out]), n, rfl⟩
    · have hne : ((Y : Int) != 0) = true := by simp; omega
      have hz : ((Y : Int) == 0) = false := by simp; omega
      go_wp2
      go_quiet (fail)
      go_wp2
      go_roundw
      case rel => exact ⟨Y, X % Y, n + nq, rfl, by go_num, hY, by have := Nat.mod_lt X (show 0 < Y by omega); omega, by rw [← HG.out, Nat.gcd_comm X Y, Nat.gcd_rec Y X, Nat.gcd_comm], by simp [World.drewN, Nat.add_assoc]⟩
      case measure => simp [intOf]; have := Nat.mod_lt X (show 0 < Y by omega); omega

set_option maxHeartbeats 400000 in
theorem g1gcd_any (a b : Int) (w : World) (h1 : -4294967296 ≤ a) (h2 : a ≤ 4294967296) (h3 : 1 ≤ b) (h4 : b ≤ 4294967296) :
    Calls Try.prog 10 #[.int .i64 a, .int .i64 b] w fun e w' => e = .returned (.int .i64 (Int.gcd a b)) ∧ w = w' := by
  go_enter Try.func10, Try.ntmps10
  go_wp2_with (go_at_call 19; refine (g1abs_any _ _ (by omega) (by omega)).mono ?_; rintro e w' ⟨rfl, rfl⟩)
  go_loop [0, 1] (fun x y => ∃ X Y : Nat, x = .int .i64 X ∧ y = .int .i64 Y ∧ X ≤ 4294967296 ∧ Y ≤ 4294967296 ∧ Nat.gcd X Y = Int.gcd a b) (fun _ y => (intOf y).toNat)
  case atStart => exact ⟨a.natAbs, b.natAbs, rfl, rfl, by omega, by omega, rfl⟩
  case round =>
    obtain ⟨X, Y, rfl, rfl, hX, hY, hG⟩ := hrel
    have HG : Hid (Nat.gcd X Y = Int.gcd a b) := hG
    clear hG
    by_cases h0 : Y = 0
    · subst h0
      have HX : Hid (X = Int.gcd a b) := by have := HG.out; rw [Nat.gcd_zero_right] at this; exact this
      go_wp2
      go_ret
      exact ⟨ret_int (by rw [← HX.out]), rfl⟩
    · have hne : ((Y : Int) != 0) = true := by simp; omega
      have hz : ((Y : Int) == 0) = false := by simp; omega
      go_wp2
      go_round
      case rel => exact ⟨Y, X % Y, rfl, by go_num, hY, by have := Nat.mod_lt X (show 0 < Y by omega); omega, by rw [← HG.out, Nat.gcd_comm X Y, Nat.gcd_rec Y X, Nat.gcd_comm]⟩
      case measure => simp [intOf]; have := Nat.mod_lt X (show 0 < Y by omega); omega

theorem wrap_u64_id (x : Int) (h0 : 0 ≤ x) (h1 : x ≤ 4294967296) : IntKind.u64.wrap x = x := by
  simp [IntKind.wrap, IntKind.bits, IntKind.signed]
  omega
theorem and_mask (x : Int) (h0 : 0 ≤ x) (h1 : x < 4294967296) : bits .and .u64 x 4294967295 = x := by
  obtain ⟨n, rfl⟩ := Int.eq_ofNat_of_zero_le h0
  have := u64_and_nat n 4294967295 (by omega) (by omega)
  have e : n &&& 4294967295 = n := by rw [show (4294967295 : Nat) = 2 ^ 32 - 1 from rfl, Nat.and_two_pow_sub_one_eq_mod]; omega
  rw [e] at this
  exact this

set_option maxHeartbeats 400000 in
theorem mul64_any (x y p : Int) (w : World) (h1 : 0 ≤ x) (h2 : x ≤ 32768) (h3 : 0 ≤ y) (h4 : y ≤ 32768) (hp0 : 0 ≤ p) (hp1 : p ≤ 1073741824) (hp : x * y = p) :
    Calls Try.prog 24 #[.int .u64 x, .int .u64 y] w fun e w' => e = .returned (.tuple #[.int .u64 0, .int .u64 p]) ∧ w = w' := by
  have e1 := and_mask x h1 (by omega)
  have e2 := and_mask y h3 (by omega)
  have e3 := and_mask 0 (by omega) (by omega)
  have e4 : x / 4294967296 = 0 := by omega
  have e5 : y / 4294967296 = 0 := by omega
  have e6 : p / 4294967296 = 0 := by omega
  have e7 := wrap_u64_id p hp0 (by omega)
  have e8 := wrap_u64_id 0 (by omega) (by omega)
  go_enter Try.func24, Try.ntmps24
  go_wp2
  go_ret2
  exact ⟨rfl, rfl⟩

theorem natAbs_prod (x y : Int) (h1 : -32768 ≤ x) (h2 : x ≤ 32768) (h3 : 0 ≤ y) (h4 : y ≤ 32768) : (x.natAbs : Int) * (y.natAbs : Int) = ((x * y).natAbs : Int) ∧ ((x * y).natAbs : Int) ≤ 1073741824 ∧ -1073741824 ≤ x * y ∧ x * y ≤ 1073741824 := by
  have hb := mul_bd (A := 32768) (B := 32768) h1 h2 h3 h4 (by omega)
  refine ⟨by rw [← Int.natCast_mul, ← Int.natAbs_mul], by omega, by omega, by omega⟩

theorem below_draws {B : Nat} {w w' : World} (h : Below B w w') (n : Nat) : Below B w (w'.drewN n) := ⟨h.os, h.tape, h.output, h.size, h.block⟩
theorem ret_pair {k : IntKind} {a b : Int} {v : Value} (h : a = b) : Ending.returned (.tuple #[.int k a, v]) = .returned (.tuple #[.int k b, v]) := by rw [h]

set_option maxHeartbeats 400000 in
theorem mul_any (x y : Int) (w : World) (h1 : -32768 ≤ x) (h2 : x ≤ 32768) (h3 : 0 ≤ y) (h4 : y ≤ 32768) :
    Calls Try.prog 21 #[.int .i64 x, .int .i64 y] w fun e w' => e = .returned (.tuple #[.int .i64 (x * y), .bool true]) ∧ w = w' := by
  obtain ⟨hp, hp1, hq1, hq2⟩ := natAbs_prod x y h1 h2 h3 h4
  have HQ : Hid (x < 0 → x * y = -((x * y).natAbs : Int)) := fun hx => by have := Int.mul_le_mul_of_nonneg_right (show x ≤ 0 by omega) h3; rw [Int.zero_mul] at this; omega
  have HR : Hid (0 ≤ x → x * y = ((x * y).natAbs : Int)) := fun hx => by have := Int.mul_nonneg hx h3; omega
  generalize hP : ((x * y).natAbs : Int) = P at hp hp1 HQ HR
  have hP0 : 0 ≤ P := by omega
  clear hP
  have M := mul64_any (x.natAbs : Int) (y.natAbs : Int) P w (by omega) (by omega) (by omega) (by omega) hP0 hp1 hp
  clear hp
  have hy : ¬ y < 0 := by omega
  have hyb : decide (y < 0) = false := decide_eq_false hy
  by_cases hn : x < 0
  · go_enter Try.func21, Try.ntmps21
    go_wp2_with (first | (go_at_call 25; refine (abs_any _ _ (by omega) (by omega)).mono ?_; rintro e w' ⟨rfl, rfl⟩) | (go_at_call 24; refine M.mono ?_; rintro e w' ⟨rfl, rfl⟩))
    go_ret2
    exact ⟨ret_pair (HQ.out hn).symm, rfl⟩
  · have hnb : decide (x < 0) = false := decide_eq_false hn
    go_enter Try.func21, Try.ntmps21
    go_wp2_with (first | (go_at_call 25; refine (abs_any _ _ (by omega) (by omega)).mono ?_; rintro e w' ⟨rfl, rfl⟩) | (go_at_call 24; refine M.mono ?_; rintro e w' ⟨rfl, rfl⟩))
    go_ret2
    exact ⟨ret_pair (HR.out (by omega)).symm, rfl⟩

theorem ret_sum (s : Int) (h : -2147483648 ≤ s) : Ending.returned (.tuple #[.int .i64 s, .bool (s != -9223372036854775808)]) = .returned (.tuple #[.int .i64 s, .bool true]) := by
  have e : (s != -9223372036854775808) = true := by simp; omega
  rw [e]

set_option maxHeartbeats 400000 in
theorem add_any (x y : Int) (w : World) (h1 : -1073741824 ≤ x) (h2 : x ≤ 1073741824) (h3 : -1073741824 ≤ y) (h4 : y ≤ 1073741824) :
    Calls Try.prog 20 #[.int .i64 x, .int .i64 y] w fun e w' => e = .returned (.tuple #[.int .i64 (x + y), .bool true]) ∧ w = w' := by
  by_cases hx : 0 ≤ x <;> by_cases hy : 0 ≤ y
  · have hs : 0 ≤ x + y := by omega
    go_enter Try.func20, Try.ntmps20
    go_wp2
    go_ret2
    exact ⟨ret_sum _ (by omega), rfl⟩
  · have hyb : decide (0 ≤ y) = false := decide_eq_false hy
    go_enter Try.func20, Try.ntmps20
    go_wp2
    go_ret2
    exact ⟨ret_sum _ (by omega), rfl⟩
  · have hxb : decide (0 ≤ x) = false := decide_eq_false hx
    go_enter Try.func20, Try.ntmps20
    go_wp2
    go_ret2
    exact ⟨ret_sum _ (by omega), rfl⟩
  · have hs : ¬ 0 ≤ x + y := by omega
    have hxb : decide (0 ≤ x) = false := decide_eq_false hx
    have hyb : decide (0 ≤ y) = false := decide_eq_false hy
    have hsb : decide (0 ≤ x + y) = false := decide_eq_false hs
    go_enter Try.func20, Try.ntmps20
    go_wp2
    go_ret2
    exact ⟨ret_sum _ (by omega), rfl⟩

set_option maxHeartbeats 400000 in
theorem fromRatio_any (s den : Int) (w : World) (h1 : -2147483648 ≤ s) (h2 : s ≤ 2147483648) (h3 : 1 ≤ den) (h4 : den ≤ 1073741824) :
    Calls Try.prog 23 #[.int .i64 s, .int .i64 den] w fun e w' => e = .returned (.agg #[.int .i64 (s / (Int.gcd s den : Int)), .int .i64 (den / (Int.gcd s den : Int)), .pointer none]) ∧ Below w.heap.size w w' := by
  have hg := gcd_pos (a := s) (b := den) (by omega)
  have HT : Hid (s.tdiv (Int.gcd s den : Int) = s / (Int.gcd s den : Int)) := Int.tdiv_eq_ediv_of_dvd (Int.gcd_dvd_left ..)
  generalize hgv : (Int.gcd s den : Int) = g at hg HT
  by_cases h1g : 1 < g
  · have hgz : (g == 0) = false := by simp; omega
    go_enter Try.func23, Try.ntmps23
    go_wp2_with (go_at_call 22; refine (gcd_any s den _ (by omega) (by omega) h3 (by omega)).mono ?_; rintro e w' ⟨rfl, n, rfl⟩; rw [hgv])
    go_quiet (fail)
    go_wp2
    refine bodyPost_ret (v := .agg #[.int .i64 (s.tdiv g), .int .i64 (den / g), .pointer none]) (by simp [results, Try.results23, go_sem]) rfl ⟨by rw [HT.out], ?_⟩
    exact (((below_draws ((Below.refl _ _).alloc (Nat.le_refl _) _) _).setCell (Nat.le_refl _) _).setCell (Nat.le_refl _) _).setCell (Nat.le_refl _) _
  · have hg1 : g = 1 := by omega
    clear HT
    subst hg1
    go_enter Try.func23, Try.ntmps23
    go_wp2_with (go_at_call 22; refine (gcd_any s den _ (by omega) (by omega) h3 (by omega)).mono ?_; rintro e w' ⟨rfl, n, rfl⟩; rw [hgv])
    refine bodyPost_ret (v := .agg #[.int .i64 s, .int .i64 den, .pointer none]) (by simp [results, Try.results23, go_sem]) rfl ⟨by simp, ?_⟩
    exact (((below_draws ((Below.refl _ _).alloc (Nat.le_refl _) _) _).setCell (Nat.le_refl _) _).setCell (Nat.le_refl _) _).setCell (Nat.le_refl _) _

/-- The result's own block, behind a call. -/
theorem slot_later0 {w w1 : World} {x y z : Value} (h : Below (w.alloc (.cells #[x, y, z] 24)).heap.size (w.alloc (.cells #[x, y, z] 24)) w1) :
    w1.cell? ⟨w.heap.size, 0, none⟩ = some x ∧ w1.cell? ⟨w.heap.size, 1, none⟩ = some y ∧ w1.cell? ⟨w.heap.size, 2, none⟩ = some z ∧ w1.frozen? ⟨w.heap.size, 0, none⟩ = false ∧ w1.frozen? ⟨w.heap.size, 1, none⟩ = false ∧ w1.frozen? ⟨w.heap.size, 2, none⟩ = false ∧ w.heap.size < w1.heap.size := by
  have hs := h.size
  simp at hs
  refine ⟨?_, ?_, ?_, ?_, ?_, ?_, by omega⟩
  · rw [h.cell (p := ⟨w.heap.size, 0, none⟩) (by simp)]; simp
  · rw [h.cell (p := ⟨w.heap.size, 1, none⟩) (by simp)]; simp
  · rw [h.cell (p := ⟨w.heap.size, 2, none⟩) (by simp)]; simp
  · rw [h.frozen (p := ⟨w.heap.size, 0, none⟩) (by simp)]; simp
  · rw [h.frozen (p := ⟨w.heap.size, 1, none⟩) (by simp)]; simp
  · rw [h.frozen (p := ⟨w.heap.size, 2, none⟩) (by simp)]; simp
theorem slot_later {w w1 : World} {x y z : Value} {n : Nat} (h : Below ((w.alloc (.cells #[x, y, z] 24)).drewN n).heap.size ((w.alloc (.cells #[x, y, z] 24)).drewN n) w1) :
    w1.cell? ⟨w.heap.size, 0, none⟩ = some x ∧ w1.cell? ⟨w.heap.size, 1, none⟩ = some y ∧ w1.cell? ⟨w.heap.size, 2, none⟩ = some z ∧ w1.frozen? ⟨w.heap.size, 0, none⟩ = false ∧ w1.frozen? ⟨w.heap.size, 1, none⟩ = false ∧ w1.frozen? ⟨w.heap.size, 2, none⟩ = false ∧ w.heap.size < w1.heap.size :=
  slot_later0 (w := w) (x := x) (y := y) (z := z) ⟨h.os, h.tape, h.output, h.size, h.block⟩

set_option maxHeartbeats 1000000 in
theorem addRatios_any (a b c d : Int) (w : World) (ha1 : -32768 ≤ a) (ha2 : a ≤ 32768) (hb1 : 1 ≤ b) (hb2 : b ≤ 32768) (hc1 : -32768 ≤ c) (hc2 : c ≤ 32768) (hd1 : 1 ≤ d) (hd2 : d ≤ 32768) (hbd : (b != d) = true) :
    Calls Try.prog 17 #[.int .i64 a, .int .i64 b, .int .i64 c, .int .i64 d] w fun e w' => ∃ s den : Int, e = .returned (.tuple #[.agg #[.int .i64 (s / (Int.gcd s den : Int)), .int .i64 (den / (Int.gcd s den : Int)), .pointer none], .bool true]) ∧
      s * (b * d) = (a * d + c * b) * den ∧ 1 ≤ den ∧ den ≤ 1073741824 ∧ -2147483648 ≤ s ∧ s ≤ 2147483648 ∧ Below w.heap.size w w' := by
  have hg := gcd_pos (a := b) (b := d) (by omega)
  have eb : b / (Int.gcd b d : Int) * (Int.gcd b d : Int) = b := Int.ediv_mul_cancel (Int.gcd_dvd_left ..)
  have ed : d / (Int.gcd b d : Int) * (Int.gcd b d : Int) = d := Int.ediv_mul_cancel (Int.gcd_dvd_right ..)
  generalize hgv : (Int.gcd b d : Int) = g at hg eb ed
  have lb := abs_div_le b g hg 32768 (by omega) hb2 (by omega) eb
  have ld := abs_div_le d g hg 32768 (by omega) hd2 (by omega) ed
  have pb : 0 < b / g := by
    by_cases h : 0 < b / g
    · exact h
    · have := Int.mul_le_mul_of_nonneg_right (show b / g ≤ 0 by omega) (show 0 ≤ g by omega); rw [Int.zero_mul, eb] at this; omega
  have pd : 0 < d / g := by
    by_cases h : 0 < d / g
    · exact h
    · have := Int.mul_le_mul_of_nonneg_right (show d / g ≤ 0 by omega) (show 0 ≤ g by omega); rw [Int.zero_mul, ed] at this; omega
  have HC : Hid ((a * (d / g) + c * (b / g)) * (b * d) = (a * d + c * b) * (b / g * d)) := common a b c d g eb ed
  have m1 := natAbs_prod (b / g) d (by omega) (by omega) (by omega) (by omega)
  have m2 := natAbs_prod a (d / g) ha1 ha2 (by omega) (by omega)
  have m3 := natAbs_prod c (b / g) hc1 hc2 (by omega) (by omega)
  have m4 : 0 < b / g * d := Int.mul_pos pb (by omega)
  obtain ⟨_, _, m1a, m1b⟩ := m1
  obtain ⟨_, _, m2a, m2b⟩ := m2
  obtain ⟨_, _, m3a, m3b⟩ := m3
  clear eb ed
  have hgz : (g == 0) = false := by simp; omega
  go_enter Try.func17, Try.ntmps17
  go_wp2_with (first | (go_at_call 22; refine (gcd_any b d _ (by omega) (by omega) (by omega) (by omega)).mono ?_; rintro e w' ⟨rfl, n, rfl⟩; rw [hgv]) | (go_at_call 21; refine (mul_any _ _ _ (by omega) (by omega) (by omega) (by omega)).mono ?_; rintro e w' ⟨rfl, rfl⟩) | (go_at_call 20; refine (add_any _ _ _ (by omega) (by omega) (by omega) (by omega)).mono ?_; rintro e w' ⟨rfl, rfl⟩))
  refine (fromRatio_any _ _ _ (by omega) (by omega) (by omega) (by omega)).mono ?_
  rintro e w1 ⟨rfl, hbel⟩
  obtain ⟨c0, c1, c2, f0, f1, f2, hs1⟩ := slot_later hbel
  have hBw : Below w.heap.size w w1 := (below_draws ((Below.refl _ _).alloc (Nat.le_refl _) _) _).trans (hbel.mono (by simp))
  clear hbel
  go_wp2
  refine bodyPost_ret (v := .tuple #[.agg #[.int .i64 ((a * (d / g) + c * (b / g)) / (Int.gcd ((a * (d / g) + c * (b / g))) ((b / g * d)) : Int)), .int .i64 ((b / g * d) / (Int.gcd ((a * (d / g) + c * (b / g))) ((b / g * d)) : Int)), .pointer none], .bool true]) (by simp [results, Try.results17, go_sem, c0, c1, c2]) rfl ⟨_, _, rfl, HC.out, by omega, by omega, by omega, by omega, ?_⟩
  exact ((hBw.setCell (Nat.le_refl _) _).setCell (Nat.le_refl _) _).setCell (Nat.le_refl _) _

set_option maxHeartbeats 1000000 in
theorem addRatios_same (a b c : Int) (w : World) (ha1 : -32768 ≤ a) (ha2 : a ≤ 32768) (hb1 : 1 ≤ b) (hb2 : b ≤ 32768) (hc1 : -32768 ≤ c) (hc2 : c ≤ 32768) :
    Calls Try.prog 17 #[.int .i64 a, .int .i64 b, .int .i64 c, .int .i64 b] w fun e w' => ∃ s den : Int, e = .returned (.tuple #[.agg #[.int .i64 (s / (Int.gcd s den : Int)), .int .i64 (den / (Int.gcd s den : Int)), .pointer none], .bool true]) ∧
      s * (b * b) = (a * b + c * b) * den ∧ 1 ≤ den ∧ den ≤ 1073741824 ∧ -2147483648 ≤ s ∧ s ≤ 2147483648 ∧ Below w.heap.size w w' := by
  have HC : Hid ((a + c) * (b * b) = (a * b + c * b) * b) := common_same a b c
  go_enter Try.func17, Try.ntmps17
  go_wp2_with (go_at_call 20; refine (add_any _ _ _ (by omega) (by omega) (by omega) (by omega)).mono ?_; rintro e w' ⟨rfl, rfl⟩)
  refine (fromRatio_any _ _ _ (by omega) (by omega) (by omega) (by omega)).mono ?_
  rintro e w1 ⟨rfl, hbel⟩
  obtain ⟨c0, c1, c2, f0, f1, f2, hs1⟩ := slot_later0 hbel
  have hBw : Below w.heap.size w w1 := ((Below.refl _ _).alloc (Nat.le_refl _) _).trans (hbel.mono (by simp))
  clear hbel
  go_wp2
  refine bodyPost_ret (v := .tuple #[.agg #[.int .i64 ((a + c) / (Int.gcd ((a + c)) (b) : Int)), .int .i64 (b / (Int.gcd ((a + c)) (b) : Int)), .pointer none], .bool true]) (by simp [results, Try.results17, go_sem, c0, c1, c2]) rfl ⟨_, _, rfl, HC.out, by omega, by omega, by omega, by omega, ?_⟩
  exact ((hBw.setCell (Nat.le_refl _) _).setCell (Nat.le_refl _) _).setCell (Nat.le_refl _) _
end Go.Proofs.Qxb6001669a
