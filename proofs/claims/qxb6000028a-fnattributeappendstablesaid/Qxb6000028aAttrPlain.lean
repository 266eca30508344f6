import Derived.Test.Qxb6000028aItoa
namespace Go.Proofs.Qxb6000028a
open Go.RowKit

/-- The cells of the attribute of index i with the name s. -/
def attrC (s : ByteArray) (i : Nat) : List Value :=
  [.string s, .int .i64 ((i : Int) % 7 + 1), .bool ((i : Int) % 2 == 1), .string (itoa i), .bool false, .pointer none, .bool false, .string { data := #[] }, .string { data := #[] }]
/-- The zero attribute's cells. -/
def zeroC : List Value := [.string { data := #[] }, .int .i64 0, .bool false, .string { data := #[] }, .bool false, .pointer none, .bool false, .string { data := #[] }, .string { data := #[] }]
def cellF (ss : List ByteArray) (k i : Nat) : List Value := if i < k then attrC (ss.getD i ByteArray.empty) i else zeroC
/-- The made cells behind k stores. -/
def cellsA (ss : List ByteArray) (n k : Nat) : List Value := (List.range n).flatMap (cellF ss k)

theorem cellF_len (ss : List ByteArray) (k i : Nat) : (cellF ss k i).length = 9 := by unfold cellF; split <;> rfl
theorem flat_len {f : Nat → List Value} (hf : ∀ i, (f i).length = 9) : ∀ n, ((List.range n).flatMap f).length = 9 * n
  | 0 => rfl
  | n + 1 => by rw [List.range_succ, List.flatMap_append, List.length_append, flat_len hf n]; simp [hf]; omega
theorem flat_get {f : Nat → List Value} (hf : ∀ i, (f i).length = 9) : ∀ (n m : Nat), ((List.range n).flatMap f)[m]? = if m < 9 * n then (f (m / 9))[m % 9]? else none
  | 0, m => by simp
  | n + 1, m => by
    rw [List.range_succ, List.flatMap_append]
    by_cases h : m < 9 * n
    · rw [List.getElem?_append_left (by rw [flat_len hf]; exact h), flat_get hf n m, if_pos h, if_pos (by omega)]
    · rw [List.getElem?_append_right (by rw [flat_len hf]; omega), flat_len hf]
      simp only [List.flatMap_cons, List.flatMap_nil, List.append_nil]
      by_cases h2 : m < 9 * (n + 1)
      · rw [if_pos h2, show m / 9 = n by omega, show m - 9 * n = m % 9 by omega]
      · rw [if_neg h2]
        exact List.getElem?_eq_none (by rw [hf]; omega)
theorem cellsA_len (ss : List ByteArray) (n k : Nat) : (cellsA ss n k).length = 9 * n := flat_len (cellF_len ss k) n
theorem cellsA_get (ss : List ByteArray) (n k i j : Nat) (hi : i < n) (hj : j < 9) : (cellsA ss n k)[9 * i + j]? = (cellF ss k i)[j]? := by
  unfold cellsA
  rw [flat_get (cellF_len ss k), if_pos (by omega), show (9 * i + j) / 9 = i by omega, show (9 * i + j) % 9 = j by omega]

theorem cellsA_made (ss : List ByteArray) (n : Nat) : (madeCells #[.string { data := #[] }, .int .i64 0, .bool false, .string { data := #[] }, .bool false, .pointer none, .bool false, .string { data := #[] }, .string { data := #[] }] (n * 9)).toList = cellsA ss n 0 := by
  apply List.ext_getElem?
  intro m
  unfold cellsA
  rw [flat_get (cellF_len ss 0)]
  by_cases h : m < 9 * n
  · rw [if_pos h]
    have hm : m < n * 9 := by omega
    have hz : cellF ss 0 (m / 9) = zeroC := by simp [cellF]
    rw [hz]
    have h9 : m % 9 < 9 := Nat.mod_lt _ (by omega)
    simp only [madeCells, Array.toList_map, Array.toList_range, List.getElem?_map, List.getElem?_range hm, Option.map_some]
    generalize m % 9 = j at h9
    have hj : j = 0 ∨ j = 1 ∨ j = 2 ∨ j = 3 ∨ j = 4 ∨ j = 5 ∨ j = 6 ∨ j = 7 ∨ j = 8 := by omega
    rcases hj with rfl | rfl | rfl | rfl | rfl | rfl | rfl | rfl | rfl <;> rfl
  · rw [if_neg h]
    exact List.getElem?_eq_none (by simp [madeCells]; omega)

/-- One attribute stored, cell by cell. -/
theorem cellsA_set (ss : List ByteArray) (n k : Nat) (hk : k < n) (v0 v1 v2 v3 v4 v5 v6 v7 v8 : Value) (hv : attrC (ss.getD k ByteArray.empty) k = [v0, v1, v2, v3, v4, v5, v6, v7, v8]) :
    (((((((((cellsA ss n k).set (9 * k) v0).set (9 * k + 1) v1).set (9 * k + 2) v2).set (9 * k + 3) v3).set (9 * k + 4) v4).set (9 * k + 5) v5).set (9 * k + 6) v6).set (9 * k + 7) v7).set (9 * k + 8) v8 = cellsA ss n (k + 1) := by
  apply List.ext_getElem?
  intro m
  have hl := cellsA_len ss n k
  have hr : (cellsA ss n (k + 1))[m]? = if m < 9 * n then (cellF ss (k + 1) (m / 9))[m % 9]? else none := flat_get (cellF_len ss (k + 1)) n m
  have ho : (cellsA ss n k)[m]? = if m < 9 * n then (cellF ss k (m / 9))[m % 9]? else none := flat_get (cellF_len ss k) n m
  rw [hr]
  by_cases h : m / 9 = k
  · have hm : m < 9 * n := by omega
    rw [if_pos hm, h]
    have hf : cellF ss (k + 1) k = [v0, v1, v2, v3, v4, v5, v6, v7, v8] := by unfold cellF; rw [if_pos (by omega), hv]
    rw [hf]
    have hj : m = 9 * k ∨ m = 9 * k + 1 ∨ m = 9 * k + 2 ∨ m = 9 * k + 3 ∨ m = 9 * k + 4 ∨ m = 9 * k + 5 ∨ m = 9 * k + 6 ∨ m = 9 * k + 7 ∨ m = 9 * k + 8 := by omega
    rcases hj with rfl | rfl | rfl | rfl | rfl | rfl | rfl | rfl | rfl <;> simp [List.getElem?_set, hl, show ∀ j, j < 9 → 9 * k + j < 9 * n by intro j hj; omega] <;> omega
  · simp only [List.getElem?_set]
    rw [if_neg (by omega), if_neg (by omega), if_neg (by omega), if_neg (by omega), if_neg (by omega), if_neg (by omega), if_neg (by omega), if_neg (by omega), if_neg (by omega), ho]
    have hf : cellF ss (k + 1) (m / 9) = cellF ss k (m / 9) := by
      unfold cellF
      by_cases h2 : m / 9 < k
      · rw [if_pos (by omega), if_pos h2]
      · rw [if_neg (by omega), if_neg h2]
    rw [hf]
end Go.Proofs.Qxb6000028a
