import Derived.Test.Qxb6000017aClone
namespace Go.Proofs.Qxb6000017a
open Go.RowKit

/-- The value of a hex digit of either case, or -1. -/
def hexv (c : Int) : Int := if 48 ≤ c ∧ c ≤ 57 then c - 48 else if 65 ≤ c ∧ c ≤ 70 then c - 55 else if 97 ≤ c ∧ c ≤ 102 then c - 87 else -1
theorem hexv_bd (c : Int) : -1 ≤ hexv c ∧ hexv c ≤ 15 := by unfold hexv; omega
/-- The digits of the lower and of the upper case. -/
def lo (k : Nat) : Int := if k < 10 then 48 + k else 87 + k
def up (k : Nat) : Int := if k < 10 then 48 + k else 55 + k
theorem hexv_iff (k : Nat) (hk : k < 16) (c : Int) : hexv c = k ↔ (lo k = c ∨ up k = c) := by unfold hexv lo up; omega
theorem lo_at (k : Nat) (h : k < ({ data := #[48, 49, 50, 51, 52, 53, 54, 55, 56, 57, 97, 98, 99, 100, 101, 102] } : ByteArray).size) :
    (((({ data := #[48, 49, 50, 51, 52, 53, 54, 55, 56, 57, 97, 98, 99, 100, 101, 102] } : ByteArray)[k]'h).toNat : Nat) : Int) = lo k := by
  have h' : k < 16 := h
  have h16 : k = 0 ∨ k = 1 ∨ k = 2 ∨ k = 3 ∨ k = 4 ∨ k = 5 ∨ k = 6 ∨ k = 7 ∨ k = 8 ∨ k = 9 ∨ k = 10 ∨ k = 11 ∨ k = 12 ∨ k = 13 ∨ k = 14 ∨ k = 15 := by omega
  rcases h16 with rfl | rfl | rfl | rfl | rfl | rfl | rfl | rfl | rfl | rfl | rfl | rfl | rfl | rfl | rfl | rfl <;> rfl
theorem up_at (k : Nat) (h : k < ({ data := #[48, 49, 50, 51, 52, 53, 54, 55, 56, 57, 65, 66, 67, 68, 69, 70] } : ByteArray).size) :
    (((({ data := #[48, 49, 50, 51, 52, 53, 54, 55, 56, 57, 65, 66, 67, 68, 69, 70] } : ByteArray)[k]'h).toNat : Nat) : Int) = up k := by
  have h' : k < 16 := h
  have h16 : k = 0 ∨ k = 1 ∨ k = 2 ∨ k = 3 ∨ k = 4 ∨ k = 5 ∨ k = 6 ∨ k = 7 ∨ k = 8 ∨ k = 9 ∨ k = 10 ∨ k = 11 ∨ k = 12 ∨ k = 13 ∨ k = 14 ∨ k = 15 := by omega
  rcases h16 with rfl | rfl | rfl | rfl | rfl | rfl | rfl | rfl | rfl | rfl | rfl | rfl | rfl | rfl | rfl | rfl <;> rfl

theorem ret_int {k : IntKind} {a b : Int} (h : a = b) : Ending.returned (.int k a) = .returned (.int k b) := by rw [h]

set_option maxHeartbeats 400000 in
theorem hexDigit_any (c : Int) (w : World) : Calls Try.prog 8 #[.int .u8 c] w fun e w' => e = .returned (.int .i64 (hexv c)) ∧ w' = w := by
  have hb := hexv_bd c
  have hl := lo_at
  have hu := up_at
  go_enter Try.func8, Try.ntmps8
  go_wp2
  go_loop [3] (fun i => ∃ k : Nat, k ≤ 16 ∧ i = .int .i64 k ∧ (hexv c = -1 ∨ (k : Int) ≤ hexv c)) (fun i => 16 - (intOf i).toNat)
  case atStart => exact ⟨0, by omega, rfl, by omega⟩
  case round =>
    obtain ⟨k, hk, rfl, hn⟩ := hrel
    by_cases hlt : k < 16
    · have hit := hexv_iff k hlt c
      have HI : Hid (hexv c = k ↔ (lo k = c ∨ up k = c)) := hit
      clear hit
      go_wp2
      · go_ret
        exact ⟨ret_int (HI.out.2 (.inl (by assumption))).symm, rfl⟩
      · go_ret
        have h2 : (lo k == c) = true ∨ (up k == c) = true := by assumption
        exact ⟨ret_int (HI.out.2 (by simpa using h2)).symm, rfl⟩
      · go_round
        case rel =>
          have h2 : (lo k == c) = false ∧ (up k == c) = false := by assumption
          have h3 : ¬ hexv c = k := fun e => by simpa [h2.1, h2.2] using (show (lo k == c) = true ∨ (up k == c) = true by simpa using HI.out.1 e)
          exact ⟨k + 1, by omega, by go_num, by omega⟩
        case measure => simp [intOf]; omega
    · go_wp2
      go_ret
      exact ⟨ret_int (by omega), rfl⟩
end Go.Proofs.Qxb6000017a
