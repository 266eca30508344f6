import Derived.Test.Qxb6000017aHex
namespace Go.Proofs.Qxb6000017a
open Go.RowKit

/-- The value of a list of hex digits. -/
def hval (l : List Int) : Int := l.foldl (fun a c => a * 16 + hexv c) 0

theorem hval_succ (zs : List Int) (k : Nat) (hk : k < zs.length) : hval (zs.take (k + 1)) = hval (zs.take k) * 16 + hexv (zs[k]?.getD 0) := by
  unfold hval
  rw [List.take_succ_eq_append_getElem hk, List.foldl_append]
  simp [hk]

theorem hval_bd (zs : List Int) : ∀ k, k ≤ zs.length → (∀ j, j < k → 0 ≤ hexv (zs.getD j 0)) → 0 ≤ hval (zs.take k) ∧ hval (zs.take k) < 16 ^ k
  | 0, _, _ => by simp [hval]
  | k + 1, h, hd => by
    have ih := hval_bd zs k (by omega) (fun j hj => hd j (by omega))
    have h1 := hd k (by omega)
    have h2 := hexv_bd (zs[k]?.getD 0)
    rw [List.getD_eq_getElem?_getD] at h1
    rw [hval_succ zs k (by omega), Int.pow_succ]
    omega

theorem hval_lt (zs : List Int) (k : Nat) (hk : k < 4) (hz : k ≤ zs.length) (hd : ∀ j, j < k → 0 ≤ hexv (zs.getD j 0)) : 0 ≤ hval (zs.take k) ∧ hval (zs.take k) ≤ 4095 := by
  have h := hval_bd zs k hz hd
  have h16 : k = 0 ∨ k = 1 ∨ k = 2 ∨ k = 3 := by omega
  rcases h16 with rfl | rfl | rfl | rfl <;> omega
theorem hval_lt4 (zs : List Int) (hz : 4 ≤ zs.length) (hd : ∀ j, j < 4 → 0 ≤ hexv (zs.getD j 0)) : 0 ≤ hval (zs.take 4) ∧ hval (zs.take 4) ≤ 65535 := by
  have h := hval_bd zs 4 hz hd
  omega

theorem or_digit (r d : Int) (h0 : 0 ≤ r) (h1 : r ≤ 4095) (h2 : 0 ≤ d) (h3 : d ≤ 15) : bits .or .i32 (r * 16) d = r * 16 + d :=
  bits_join .i32 31 (by decide) wraps_i32 4 _ _ (by omega) (by omega) (by omega) h2 (by omega) (by omega)

theorem dig9 (r z : Int) (h0 : 0 ≤ r) (h1 : r ≤ 4095) (hz : 0 ≤ hexv z) (h : z ≤ 57) : bits .or .i32 (r * 16) ((z - 48) % 256) = r * 16 + hexv z := by
  have e : (z - 48) % 256 = hexv z := by unfold hexv at hz ⊢; omega
  rw [e, or_digit r _ h0 h1 hz (hexv_bd z).2]
theorem digA (r z : Int) (h0 : 0 ≤ r) (h1 : r ≤ 4095) (hz : 0 ≤ hexv z) (h : 57 < z) (h' : z ≤ 70) : bits .or .i32 (r * 16) ((z - 65 + 10) % 256) = r * 16 + hexv z := by
  have e : (z - 65 + 10) % 256 = hexv z := by unfold hexv at hz ⊢; omega
  rw [e, or_digit r _ h0 h1 hz (hexv_bd z).2]
theorem diga (r z : Int) (h0 : 0 ≤ r) (h1 : r ≤ 4095) (hz : 0 ≤ hexv z) (h' : 70 < z) : bits .or .i32 (r * 16) ((z - 97 + 10) % 256) = r * 16 + hexv z := by
  have e : (z - 97 + 10) % 256 = hexv z := by unfold hexv at hz ⊢; omega
  rw [e, or_digit r _ h0 h1 hz (hexv_bd z).2]
theorem val_int {k : IntKind} {a b : Int} (h : a = b) : Value.int k a = .int k b := by rw [h]

set_option maxHeartbeats 400000 in
theorem codeUnit_any (b off len cap : Nat) (zs : List Int) (w : World) (h4 : 4 ≤ len) (hlc : len ≤ cap) (hm : len ≤ 2000000) (hz : len ≤ zs.length) (hc : ∀ j, j < 4 → w.cell? ⟨b, off + j, none⟩ = some (.int .u8 (zs.getD j 0)))
    (hd : ∀ j, j < 4 → 0 ≤ hexv (zs.getD j 0)) :
    Calls Try.prog 18 #[.slice (some ⟨b, off, none⟩) len cap] w fun e w' => e = .returned (.int .i32 (hval (zs.take 4))) ∧ w' = w := by
  have H : ∀ k, k < 4 → 0 ≤ hval (zs.take k) ∧ hval (zs.take k) ≤ 4095 := fun k hk => hval_lt zs k hk (by omega) (fun j hj => hd j (by omega))
  have HH : Hid (∀ k, k < 4 → 0 ≤ hval (zs.take k) ∧ hval (zs.take k) ≤ 4095) := H
  clear H
  have HD : Hid (∀ j, j < 4 → 0 ≤ hexv (zs.getD j 0)) := hd
  clear hd
  go_enter Try.func18, Try.ntmps18
  go_wp2
  go_loop [3, 9] (fun r i => ∃ k : Nat, k ≤ 4 ∧ i = .int .i64 k ∧ r = .int .i32 (hval (zs.take k))) (fun _ i => 4 - (intOf i).toNat)
  case atStart => exact ⟨0, by omega, rfl, rfl⟩
  case round =>
    obtain ⟨k, hk, rfl, rfl⟩ := hrel
    by_cases hlt : k < 4
    · have hcell := hc k hlt
      have hb1 : 0 ≤ hval (zs.take k) := (HH.out k hlt).1
      have hb2 : hval (zs.take k) ≤ 4095 := (HH.out k hlt).2
      have hdz : 0 ≤ hexv (zs[k]?.getD 0) := by have := HD.out k hlt; rwa [List.getD_eq_getElem?_getD] at this
      have HS : Hid (hval (zs.take (k + 1)) = hval (zs.take k) * 16 + hexv (zs[k]?.getD 0)) := hval_succ zs k (by omega)
      clear hc
      go_wp2
      all_goals
        go_round
        case rel =>
          refine ⟨k + 1, by omega, by go_num, val_int ?_⟩
          rw [HS.out]
          first
            | (have h70 : 70 < zs[k]?.getD 0 := by assumption
               exact diga _ _ hb1 hb2 hdz h70)
            | (have h70 : zs[k]?.getD 0 ≤ 70 := by assumption
               have h57 : 57 < zs[k]?.getD 0 := by assumption
               exact digA _ _ hb1 hb2 hdz h57 h70)
            | (have h57 : zs[k]?.getD 0 ≤ 57 := by assumption
               exact dig9 _ _ hb1 hb2 hdz h57)
        case measure => simp [intOf]; omega
    · have hk4 : k = 4 := by omega
      subst hk4
      go_wp2
      go_ret
      exact ⟨rfl, rfl⟩
end Go.Proofs.Qxb6000017a
