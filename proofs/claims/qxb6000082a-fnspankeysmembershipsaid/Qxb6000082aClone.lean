import Derived.Test.Qxb6000082aProg
import Derived.WalkKit
import Derived.WalkSpells
namespace Go.Proofs.Qxb6000082a
open Go.RowKit

theorem Try.info5 : (Try.prog.info? 5).map (fun i => (i.zero, i.size, i.bytes)) = some (some (.int .u8 0), 1, 1) := by kernel_rfl

/-- The made cells behind k stores. -/
def filled (zs : List Int) (len k : Nat) : List Value := (zs.take k).map (Value.int .u8) ++ List.replicate (len - k) (.int .u8 0)

theorem filled_zero (zs : List Int) (len : Nat) : filled zs len 0 = List.replicate len (.int .u8 0) := by simp [filled]

theorem filled_succ (zs : List Int) (len k : Nat) (hk : k < len) (hz : len ≤ zs.length) : (filled zs len k).set k (.int .u8 (zs[k]?.getD 0)) = filled zs len (k + 1) := by
  have hkz : k < zs.length := by omega
  have e1 : len - k = (len - (k + 1)) + 1 := by omega
  have e2 : (List.map (Value.int .u8) (zs.take k)).length = k := by simp; omega
  unfold filled
  rw [e1, List.replicate_succ, List.set_append, if_neg (by rw [e2]; omega), e2, Nat.sub_self, List.set_cons_zero, List.take_succ_eq_append_getElem hkz, List.map_append, List.append_assoc]
  simp [hkz]

theorem filled_full (zs : List Int) (len : Nat) : filled zs len len = (zs.take len).map (Value.int .u8) := by simp [filled]

theorem filled_get (zs : List Int) (len k : Nat) (hk : k < len) (hz : len ≤ zs.length) : (filled zs len k)[k]? = some (.int .u8 0) := by
  have e2 : (List.map (Value.int .u8) (zs.take k)).length = k := by simp; omega
  unfold filled
  rw [List.getElem?_append_right (by omega), e2, Nat.sub_self, List.getElem?_replicate, if_pos (by omega)]

/-- nil stays nil. -/
theorem clone_nil (w : World) : Calls Try.prog 6 #[.slice none 0 0] w fun e w' => e = .returned (.slice none 0 0) ∧ w' = w := by
  have hn := fun (w : World) => Lib.run_eql_slice_nil (P := Try.prog) w 22 5 none 0 0 0 0 Try.underlying22
  go_enter Try.func6, Try.ntmps6
  go_wp2
  go_ret
  exact ⟨rfl, rfl⟩

/-- An empty slice, not nil: a new empty row. -/
theorem clone_empty (a : Addr) (cap : Nat) (w : World) : Calls Try.prog 6 #[.slice (some a) 0 cap] w fun e w' =>
    e = .returned (.slice (some ⟨w.heap.size, 0, none⟩) 0 0) ∧ w'.ownsRow w.heap.size 5 1 (.slice (some ⟨w.heap.size, 0, none⟩) 0 0) 0 [] ∧ Below w.heap.size w w' := by
  obtain ⟨i0, hi, hz0, hz1, hz2⟩ := info_parts Try.info5
  have hn := fun (w : World) => Lib.run_eql_slice_nil (P := Try.prog) w 22 5 (some a) 0 cap 0 0 Try.underlying22
  go_enter Try.func6, Try.ntmps6
  go_wp2_with (at_make; refine wpList_make_full _ rfl _ _ 22 rfl w.heap.size 5 i0 (.int .u8 0) 1 Try.underlying22 hi hz0 hz1 _ _ _ _ 0 rfl rfl rfl rfl ?b2 ?b3 (Nat.le_refl _) ?_)
  case b2 => omega
  case b3 => unfold maxLen; omega
  intro w0 hown0 hgrow0
  go_wp2
  refine wp_loop_rounds 1 ?_; rw [rounds_succ]
  go_wp2
  go_ret
  exact ⟨rfl, by simpa [madeCells] using hown0, (Below.refl _ _).grown hgrow0 (Nat.le_refl _) (fun k h => by cases h)⟩

set_option maxHeartbeats 400000 in
/-- Elements: a new row that holds them. -/
theorem clone_row (b off len cap : Nat) (zs : List Int) (w : World) (hlz : len ≤ zs.length) (hm : len ≤ 1048576) (hb : b < w.heap.size) (hc : ∀ j, j < len → w.cell? ⟨b, off + j, none⟩ = some (.int .u8 (zs.getD j 0))) :
    Calls Try.prog 6 #[.slice (some ⟨b, off, none⟩) len cap] w fun e w' =>
    e = .returned (.slice (some ⟨w.heap.size, 0, none⟩) len len) ∧ w'.ownsRow w.heap.size 5 1 (.slice (some ⟨w.heap.size, 0, none⟩) len len) len ((zs.take len).map (Value.int .u8)) ∧ Below w.heap.size w w' := by
  obtain ⟨i0, hi, hz0, hz1, hz2⟩ := info_parts Try.info5
  have hn := fun (w : World) => Lib.run_eql_slice_nil (P := Try.prog) w 22 5 (some ⟨b, off, none⟩) len cap 0 0 Try.underlying22
  go_enter Try.func6, Try.ntmps6
  go_wp2_with (at_make; refine wpList_make_full _ rfl _ _ 22 rfl w.heap.size 5 i0 (.int .u8 0) 1 Try.underlying22 hi hz0 hz1 _ _ _ _ len rfl rfl rfl rfl ?b2 ?b3 (Nat.le_refl _) ?_)
  case b2 => rw [hz2]; omega
  case b3 => unfold maxLen; omega
  intro w0 hown0 hgrow0
  have hown1 : w0.ownsRow w.heap.size 5 1 (.slice (some ⟨w.heap.size, 0, none⟩) len len) len (filled zs len 0) := by
    rw [filled_zero]; simpa [Value.cells, toList_madeCells_one] using hown0
  clear hown0
  go_wp2
  go_loopw [4] (fun i wr => ∃ k : Nat, k ≤ len ∧ i = .int .i64 k ∧ wr.ownsRow w.heap.size 5 1 (.slice (some ⟨w.heap.size, 0, none⟩) len len) len (filled zs len k) ∧ Below w.heap.size w wr) (fun i _ => len - (intOf i).toNat)
  case atStart => exact ⟨0, Nat.zero_le _, rfl, hown1, (Below.refl _ _).grown hgrow0 (Nat.le_refl _) (fun k h => by cases h)⟩
  case round =>
    obtain ⟨k, hk, rfl, hown, hbel⟩ := hrel
    clear hown1 hgrow0
    by_cases hlt : k < len
    · have hcell : wr.cell? ⟨b, off + k, none⟩ = some (.int .u8 (zs.getD k 0)) := (hbel.cell (by exact hb)).trans (hc k hlt)
      have hcell2 : wr.cell? ⟨w.heap.size, k, none⟩ = some (.int .u8 0) := (hown.cellAt k (by omega)).trans (filled_get zs len k hlt hlz)
      have hfr : wr.frozen? ⟨w.heap.size, k, none⟩ = false := hown.frozenAt k
      have hst := hown.stored k (.int .u8 (zs[k]?.getD 0))
      rw [filled_succ zs len k hlt hlz] at hst
      have hsz := hbel.size
      go_wp2
      go_roundw
      case rel => exact ⟨k + 1, by omega, by go_num, hst.1, hbel.setCell (Nat.le_refl _) _⟩
      case measure => simp [intOf]; omega
    · have hkl : k = len := by omega
      subst hkl
      go_wp2
      go_ret
      exact ⟨rfl, by rw [← filled_full]; exact hown, hbel⟩
end Go.Proofs.Qxb6000082a
