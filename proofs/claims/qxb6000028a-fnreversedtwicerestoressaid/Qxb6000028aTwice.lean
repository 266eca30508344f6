import Derived.Test.Qxb6000028aPlaces
namespace Go.Proofs.Qxb6000028a
open Go.RowKit

set_option maxRecDepth 100000 in
set_option maxHeartbeats 4000000 in
/-- The key holder is none of the four. -/
theorem twice_out (a0 a1 a2 a3 : ByteArray) (t k i : Int) (self : Bool) (w0 : a0.size ≤ maxLen) (w1 : a1.size ≤ maxLen) (w2 : a2.size ≤ maxLen) (w3 : a3.size ≤ maxLen) (w : World) (hk : k < 1 ∨ 4 < k) :
    Calls Try.prog 3 #[.string a0, .string a1, .string a2, .string a3, .int .i64 t, .int .i64 k, .int .i64 i, .bool self] w fun e w' => e = .returned (.bool true) ∧ Below w.heap.size w w' := by
  have Z := bytes8 a0 a1 a2 a3 t k i self w w0 w1 w2 w3
  unfold maxLen at w0 w1 w2 w3
  rcases hk with hk | hk
  all_goals
    go_enter Try.func3, Try.ntmps3
    go_wp2_with (go_at_call 8; refine Z.mono ?_; rintro e w' ⟨⟨r, rfl⟩, rfl⟩)
    all_goals (go_ret; exact ⟨rfl, Below.refl _ _⟩)

set_option maxRecDepth 100000 in
set_option maxHeartbeats 4000000 in
/-- A foreign key with a second name. -/
theorem twice_named (a0 a1 a2 a3 : ByteArray) (t k i : Int) (self : Bool) (w0 : a0.size ≤ maxLen) (w1 : a1.size ≤ maxLen) (w2 : a2.size ≤ maxLen) (w3 : a3.size ≤ maxLen) (w : World) (hk1 : 1 ≤ k) (hk2 : k ≤ 2) (hs : a3.toList.isEmpty = false) :
    Calls Try.prog 3 #[.string a0, .string a1, .string a2, .string a3, .int .i64 t, .int .i64 k, .int .i64 i, .bool self] w fun e w' => e = .returned (.bool true) ∧ Below w.heap.size w w' := by
  have Z := bytes8 a0 a1 a2 a3 t k i self w w0 w1 w2 w3
  unfold maxLen at w0 w1 w2 w3
  go_enter Try.func3, Try.ntmps3
  go_wp2_with (go_at_call 8; refine Z.mono ?_; rintro e w' ⟨⟨r, rfl⟩, rfl⟩)
  all_goals (go_ret; exact ⟨rfl, Below.refl _ _⟩)

set_option maxRecDepth 100000 in
set_option maxHeartbeats 4000000 in
/-- Lists hold the keys, not in the source. -/
theorem twice_lists (a0 a1 a2 a3 : ByteArray) (t k i : Int) (self : Bool) (w0 : a0.size ≤ maxLen) (w1 : a1.size ≤ maxLen) (w2 : a2.size ≤ maxLen) (w3 : a3.size ≤ maxLen) (w : World) (hk : (k == 4) = true) (h34 : 3 ≤ k ∧ k ≤ 4) (h : ¬ kinOf w.heap.size i self = some ⟨w.heap.size, 0, none⟩) :
    Calls Try.prog 3 #[.string a0, .string a1, .string a2, .string a3, .int .i64 t, .int .i64 k, .int .i64 i, .bool self] w fun e w' => e = .returned (.bool true) ∧ Below w.heap.size w w' := by
  have Z := bytes8 a0 a1 a2 a3 t k i self w w0 w1 w2 w3
  have M := models_any i self w
  have hne := kin_neq w i self h
  clear h
  unfold maxLen at w0 w1 w2 w3
  go_enter Try.func3, Try.ntmps3
  go_wp2_with (first | (go_at_call 8; refine Z.mono ?_; rintro e w' ⟨⟨r, rfl⟩, rfl⟩) | (go_at_call 9; refine M.mono ?_; rintro e w' ⟨rfl, rfl⟩))
  all_goals (go_ret; exact ⟨rfl, by first | exact Below.refl _ _ | exact models_below _⟩)
end Go.Proofs.Qxb6000028a
