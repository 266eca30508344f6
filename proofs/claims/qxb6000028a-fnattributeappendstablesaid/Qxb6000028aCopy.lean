import Derived.Test.Qxb6000028aAttrPlain
namespace Go.Proofs.Qxb6000028a
open Go.RowKit

theorem Try.info9 : (Try.prog.info? 9).map (fun i => (i.zero, i.size, i.bytes)) = some (some (.string { data := #[] }), 1, 16) := by kernel_rfl

/-- The made cells behind k stores. -/
def filledS (ss : List ByteArray) (len k : Nat) : List Value := (ss.take k).map Value.string ++ List.replicate (len - k) (.string { data := #[] })

theorem filledS_zero (ss : List ByteArray) (len : Nat) : filledS ss len 0 = List.replicate len (.string { data := #[] }) := by simp [filledS]
theorem filledS_succ (ss : List ByteArray) (len k : Nat) (hk : k < len) (hz : len ≤ ss.length) : (filledS ss len k).set k (.string (ss[k]?.getD ByteArray.empty)) = filledS ss len (k + 1) := by
  have hkz : k < ss.length := by omega
  have e1 : len - k = (len - (k + 1)) + 1 := by omega
  have e2 : (List.map Value.string (ss.take k)).length = k := by simp; omega
  unfold filledS
  rw [e1, List.replicate_succ, List.set_append, if_neg (by rw [e2]; omega), e2, Nat.sub_self, List.set_cons_zero, List.take_succ_eq_append_getElem hkz, List.map_append, List.append_assoc]
  simp [hkz]
theorem filledS_full (ss : List ByteArray) (len : Nat) : filledS ss len len = (ss.take len).map Value.string := by simp [filledS]
theorem filledS_get (ss : List ByteArray) (len k : Nat) (hk : k < len) (hz : len ≤ ss.length) : (filledS ss len k)[k]? = some (.string { data := #[] }) := by
  have e2 : (List.map Value.string (ss.take k)).length = k := by simp; omega
  unfold filledS
  rw [List.getElem?_append_right (by omega), e2, Nat.sub_self, List.getElem?_replicate, if_pos (by omega)]

theorem copy_nil (w : World) : Calls Try.prog 16 #[.slice none 0 0] w fun e w' => e = .returned (.slice none 0 0) ∧ w' = w := by
  have hn := fun (w : World) => Lib.run_eql_slice_nil (P := Try.prog) w 39 9 none 0 0 0 0 Try.underlying39
  go_enter Try.func16, Try.ntmps16
  go_wp2
  go_ret
  exact ⟨rfl, rfl⟩

theorem copy_empty (a : Addr) (cap : Nat) (w : World) : Calls Try.prog 16 #[.slice (some a) 0 cap] w fun e w' =>
    e = .returned (.slice (some ⟨w.heap.size, 0, none⟩) 0 0) ∧ Below w.heap.size w w' := by
  obtain ⟨i0, hi, hz0, hz1, hz2⟩ := info_parts Try.info9
  have hn := fun (w : World) => Lib.run_eql_slice_nil (P := Try.prog) w 39 9 (some a) 0 cap 0 0 Try.underlying39
  go_enter Try.func16, Try.ntmps16
  go_wp2_with (at_make; refine wpList_make_full _ rfl _ _ 39 rfl w.heap.size 9 i0 (.string { data := #[] }) 1 Try.underlying39 hi hz0 hz1 _ _ _ _ 0 rfl rfl rfl rfl ?b2 ?b3 (Nat.le_refl _) ?_)
  case b2 => omega
  case b3 => unfold maxLen; omega
  intro w0 hown0 hgrow0
  go_wp2
  refine wp_loop_rounds 1 ?_; rw [rounds_succ]
  go_wp2
  go_ret
  exact ⟨rfl, (Below.refl _ _).grown hgrow0 (Nat.le_refl _) (fun k h => by cases h)⟩

set_option maxHeartbeats 400000 in
theorem copy_row (b off len cap : Nat) (ss : List ByteArray) (w : World) (hlz : len ≤ ss.length) (hm : len ≤ 65536) (hb : b < w.heap.size) (hc : ∀ j, j < len → w.cell? ⟨b, off + j, none⟩ = some (.string (ss.getD j ByteArray.empty))) :
    Calls Try.prog 16 #[.slice (some ⟨b, off, none⟩) len cap] w fun e w' =>
    e = .returned (.slice (some ⟨w.heap.size, 0, none⟩) len len) ∧ w'.ownsRow w.heap.size 9 1 (.slice (some ⟨w.heap.size, 0, none⟩) len len) len ((ss.take len).map Value.string) ∧ Below w.heap.size w w' := by
  obtain ⟨i0, hi, hz0, hz1, hz2⟩ := info_parts Try.info9
  have hn := fun (w : World) => Lib.run_eql_slice_nil (P := Try.prog) w 39 9 (some ⟨b, off, none⟩) len cap 0 0 Try.underlying39
  go_enter Try.func16, Try.ntmps16
  go_wp2_with (at_make; refine wpList_make_full _ rfl _ _ 39 rfl w.heap.size 9 i0 (.string { data := #[] }) 1 Try.underlying39 hi hz0 hz1 _ _ _ _ len rfl rfl rfl rfl ?b2 ?b3 (Nat.le_refl _) ?_)
  case b2 => rw [hz2]; omega
  case b3 => unfold maxLen; omega
  intro w0 hown0 hgrow0
  have hown1 : w0.ownsRow w.heap.size 9 1 (.slice (some ⟨w.heap.size, 0, none⟩) len len) len (filledS ss len 0) := by
    rw [filledS_zero]; simpa [Value.cells, toList_madeCells_one] using hown0
  clear hown0
  go_wp2
  go_loopw [4] (fun i wr => ∃ k : Nat, k ≤ len ∧ i = .int .i64 k ∧ wr.ownsRow w.heap.size 9 1 (.slice (some ⟨w.heap.size, 0, none⟩) len len) len (filledS ss len k) ∧ Below w.heap.size w wr) (fun i _ => len - (intOf i).toNat)
  case atStart => exact ⟨0, Nat.zero_le _, rfl, hown1, (Below.refl _ _).grown hgrow0 (Nat.le_refl _) (fun k h => by cases h)⟩
  case round =>
    obtain ⟨k, hk, rfl, hown, hbel⟩ := hrel
    clear hown1 hgrow0
    by_cases hlt : k < len
    · have hcell : wr.cell? ⟨b, off + k, none⟩ = some (.string (ss.getD k ByteArray.empty)) := (hbel.cell (by exact hb)).trans (hc k hlt)
      have hcell2 : wr.cell? ⟨w.heap.size, k, none⟩ = some (.string { data := #[] }) := (hown.cellAt k (by omega)).trans (filledS_get ss len k hlt hlz)
      have hfr : wr.frozen? ⟨w.heap.size, k, none⟩ = false := hown.frozenAt k
      have hst := hown.stored k (.string (ss[k]?.getD ByteArray.empty))
      rw [filledS_succ ss len k hlt hlz] at hst
      have hsz := hbel.size
      go_wp2
      go_roundw
      case rel => exact ⟨k + 1, by omega, by go_num, hst.1, hbel.setCell (Nat.le_refl _) _⟩
      case measure => simp [intOf]; omega
    · have hkl : k = len := by omega
      subst hkl
      go_wp2
      go_ret
      exact ⟨rfl, by rw [← filledS_full]; exact hown, hbel⟩

/-- zzCopyNames, whatever comes in. -/
theorem copy_gen (a : Option Addr) (len cap : Nat) (ss : List ByteArray) (w : World) (hnil : a = none → len = 0 ∧ cap = 0) (hlz : len ≤ ss.length) (hm : len ≤ 65536)
    (hc : ∀ x, a = some x → ∀ j, j < len → w.cell? (x.add j) = some (.string (ss.getD j ByteArray.empty))) :
    Calls Try.prog 16 #[.slice a len cap] w fun e w' => ∃ ao, e = .returned (.slice ao len len) ∧ (0 < len → ao = some ⟨w.heap.size, 0, none⟩ ∧ w.heap.size < w'.heap.size) ∧
      (∀ j, j < len → w'.cell? ⟨w.heap.size, j, none⟩ = some (.string (ss.getD j ByteArray.empty))) ∧ Below w.heap.size w w' := by
  cases a with
  | none =>
    obtain ⟨rfl, rfl⟩ := hnil rfl
    refine (copy_nil w).mono ?_
    rintro e w' ⟨rfl, rfl⟩
    exact ⟨none, rfl, fun h => by omega, fun j h => by omega, Below.refl _ _⟩
  | some x =>
    by_cases h0 : len = 0
    · subst h0
      refine (copy_empty x cap w).mono ?_
      rintro e w' ⟨rfl, hb⟩
      exact ⟨_, rfl, fun h => by omega, fun j h => by omega, hb⟩
    · obtain ⟨b, off, sp⟩ := x
      have hsp : sp = none := by simpa [Addr.add] using World.cell?_spot (hc _ rfl 0 (by omega))
      subst hsp
      have hc' : ∀ j, j < len → w.cell? ⟨b, off + j, none⟩ = some (.string (ss.getD j ByteArray.empty)) := fun j hj => by have := hc _ rfl j hj; rwa [Addr.add_lit] at this
      have hb : b < w.heap.size := block_lt_of_cell (hc' 0 (by omega))
      refine (copy_row b off len cap ss w hlz hm hb hc').mono ?_
      rintro e w' ⟨rfl, hown, hbel⟩
      have hcz : ∀ j, j < len → w'.cell? ⟨w.heap.size, j, none⟩ = some (.string (ss.getD j ByteArray.empty)) := by
        intro j hj
        rw [hown.cellAt j (by omega)]
        simp [hj, show j < ss.length by omega]
      exact ⟨_, rfl, fun _ => ⟨rfl, block_lt_of_cell (hcz 0 (by omega))⟩, hcz, hbel⟩
end Go.Proofs.Qxb6000028a
