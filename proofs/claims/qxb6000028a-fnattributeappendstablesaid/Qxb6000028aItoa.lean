import Derived.Test.Qxb6000028aProg
import Derived.WalkKit
import Derived.WalkSpells
import Derived.WalkLawsBesides
namespace Go.Proofs.Qxb6000028a
open Go.RowKit

/-- The digits of n, ahead of acc. -/
def digs : Nat → Nat → List Int → List Int
  | 0, _, acc => acc
  | f + 1, n, acc => if n = 0 then acc else digs f (n / 10) ((48 + n % 10 : Nat) :: acc)
def strOf (ns : List Int) : ByteArray := ns.foldl (fun r n => r.push (UInt8.ofNat n.toNat)) ByteArray.empty
/-- What zzItoa answers. -/
def itoa (n : Nat) : ByteArray := if n = 0 then { data := #[48] } else strOf (digs 7 n [])

/-- The local array behind k stores. -/
structure Digits (w wr : World) (n0 k n : Nat) (cs : List Int) (cur : Array Value) : Prop where
  blk : wr.heap[w.heap.size]? = some (.cells cur 55 (0, 0))
  size : cur.size = 24
  len : cs.length = k
  at_ : ∀ j, j < k → cur[24 - k + j]? = some (.int .u8 (cs.getD j 0))
  eq : digs (7 - k) n cs = digs 7 n0 []
  bd : n < 10 ^ (7 - k)
  bel : Below w.heap.size w wr

theorem Digits.start (w : World) (n0 : Nat) (h : n0 < 10 ^ 7) : ∃ cur, Digits w (w.alloc (.cells (Array.replicate 24 (.int .u8 0)) 55)) n0 0 n0 [] cur :=
  ⟨_, heap_alloc_new w _, by simp, rfl, fun j h => by omega, rfl, h, (Below.refl _ _).alloc (Nat.le_refl _) _⟩

theorem Digits.step {w wr : World} {n0 k n : Nat} {cs : List Int} {cur : Array Value} (h : Digits w wr n0 k n cs cur) (hk : k < 7) (hn : 0 < n) :
    ∃ cur', Digits w (wr.setCell ⟨w.heap.size, 24 - k - 1, none⟩ (.int .u8 (48 + n % 10 : Nat))) n0 (k + 1) (n / 10) ((48 + n % 10 : Nat) :: cs) cur' := by
  refine ⟨cur.setIfInBounds (24 - k - 1) (.int .u8 (48 + n % 10 : Nat)), heap_setCell_same wr w.heap.size _ cur 55 _ h.blk, by simpa using h.size, by simp [h.len], ?_, ?_, ?_, h.bel.setCell (Nat.le_refl _) _⟩
  · intro j hj
    rw [Array.getElem?_setIfInBounds]
    cases j with
    | zero => rw [if_pos (by omega), if_pos (by have := h.size; omega)]; simp
    | succ j =>
      rw [if_neg (by omega), show 24 - (k + 1) + (j + 1) = 24 - k + j by omega, h.at_ j (by omega)]
      simp
  · have e := h.eq
    rw [show 7 - k = (7 - (k + 1)) + 1 by omega, digs, if_neg (by omega)] at e
    exact e
  · have e := h.bd
    rw [show 7 - k = (7 - (k + 1)) + 1 by omega, Nat.pow_succ] at e
    exact Nat.div_lt_of_lt_mul (by omega)

theorem Digits.cell {w wr : World} {n0 k n : Nat} {cs : List Int} {cur : Array Value} (h : Digits w wr n0 k n cs cur) (j : Nat) (hj : j < k) : wr.cell? ⟨w.heap.size, 24 - k + j, none⟩ = some (.int .u8 (cs.getD j 0)) := by
  rw [cell_of_row wr w.heap.size _ cur 55 (0, 0) h.blk]
  exact h.at_ j hj
theorem Digits.there {w wr : World} {n0 k n : Nat} {cs : List Int} {cur : Array Value} (h : Digits w wr n0 k n cs cur) (j : Nat) (hj : j < 24) : ∃ v, wr.cell? ⟨w.heap.size, j, none⟩ = some v := by
  rw [cell_of_row wr w.heap.size _ cur 55 (0, 0) h.blk]
  have := h.size
  exact ⟨cur[j]'(by omega), by simp⟩
theorem Digits.free {w wr : World} {n0 k n : Nat} {cs : List Int} {cur : Array Value} (h : Digits w wr n0 k n cs cur) (j : Nat) : wr.frozen? ⟨w.heap.size, j, none⟩ = false := frozen_of_row wr w.heap.size j cur 55 h.blk

theorem digs_zero (f : Nat) (acc : List Int) : digs f 0 acc = acc := by cases f <;> simp [digs]
theorem digs_len : ∀ (f n : Nat) (acc : List Int), acc.length ≤ (digs f n acc).length
  | 0, _, _ => by simp [digs]
  | f + 1, n, acc => by
    rw [digs]
    split
    · exact Nat.le_refl _
    · have := digs_len f (n / 10) ((48 + n % 10 : Nat) :: acc)
      rw [List.length_cons] at this
      omega
theorem digs_ne (f n : Nat) (acc : List Int) (h : 0 < n) : digs (f + 1) n acc ≠ acc := by
  intro e
  rw [digs, if_neg (by omega)] at e
  have := digs_len f (n / 10) ((48 + n % 10 : Nat) :: acc)
  rw [e, List.length_cons] at this
  omega
theorem slice55 (B k : Nat) (h1 : 1 ≤ k) (h7 : k ≤ 24) (w : World) : (Instr.sliceAt 55 (.pointer (some ⟨B, 0, none⟩)) (some (.int .i64 ((24 - k : Nat) : Int))) none none).run Try.prog w = .ok (.slice (some ⟨B, 24 - k, none⟩) k k) w := by
  have e1 : Try.prog.arrayLen 55 = 24 := by kernel_rfl
  have e2 : Try.prog.elem 55 = 5 := by kernel_rfl
  have e3 : (sizeOf 5).run Try.prog w = .ok 1 w := by kernel_rfl
  have e := run_sliceAt_array_l (P := Try.prog) w 55 ⟨B, 0, none⟩ Try.underlying55 .i64 ((24 - k : Nat) : Int) (by omega) (by rw [e1]; omega)
  rw [e1, e2, e3] at e
  rw [e]
  simp only [Result.andThen, slicedAt, Int.toNat_natCast]
  rw [if_neg (by omega), Addr.add_lit]
  have e4 : 24 - (24 - k) = k := by omega
  rw [e4]
  simp

theorem itoa_zero (i : Int) (w : World) (h0 : i ≤ 0) : Calls Try.prog 19 #[.int .i64 i] w fun e w' => e = .returned (.string { data := #[48] }) ∧ w = w' := by
  go_enter Try.func19, Try.ntmps19
  go_wp2
  go_ret
  exact ⟨rfl, rfl⟩

set_option maxHeartbeats 400000 in
theorem itoa_pos (n0 : Nat) (w : World) (h0 : 0 < n0) (h1 : n0 ≤ 1048576) : Calls Try.prog 19 #[.int .i64 n0] w fun e w' => e = .returned (.string (itoa n0)) ∧ Below w.heap.size w w' := by
  obtain ⟨cur0, D0⟩ := Digits.start w n0 (by omega)
  have hcv := fun (w : World) (a : Option Addr) (l c : Nat) => run_convert_bytes_string (P := Try.prog) w 56 9 5 a l c Try.underlying56 Try.underlying5 Try.underlying9
  go_enter Try.func19, Try.ntmps19
  go_wp2
  go_loopw [0, 4] (fun i p wr => ∃ (k n : Nat) (cs : List Int) (cur : Array Value), k ≤ 7 ∧ i = .int .i64 n ∧ p = .int .i64 (24 - k : Nat) ∧ n ≤ 1048576 ∧ Digits w wr n0 k n cs cur) (fun i _ _ => (intOf i).toNat)
  case atStart => exact ⟨0, n0, [], cur0, by omega, rfl, rfl, by omega, D0⟩
  case round =>
    obtain ⟨k, n, cs, cur, hk, rfl, rfl, hnb, D⟩ := hrel
    by_cases hn : 0 < n
    · have hk7 : k < 7 := by
        by_cases e : k = 7
        · have := D.bd; subst e; simp at this; omega
        · omega
      obtain ⟨vo, ho⟩ := D.there (24 - k - 1) (by omega)
      have hf := D.free (24 - k - 1)
      obtain ⟨cur', D'⟩ := D.step hk7 hn
      have e48 : ((48 + n % 10 : Nat) : Int) = 48 + (n : Int) % 10 := by omega
      rw [e48] at D'
      have HD : Hid (Digits w (wr.setCell ⟨w.heap.size, 24 - k - 1, none⟩ (.int .u8 (48 + (n : Int) % 10))) n0 (k + 1) (n / 10) ((48 + (n : Int) % 10) :: cs) cur') := D'
      clear D' e48
      go_wp2
      go_roundw
      case rel => exact ⟨k + 1, n / 10, _, _, by omega, by go_num, by go_num, by omega, HD.out⟩
      case measure => simp [intOf]; omega
    · have hn0 : n = 0 := by omega
      subst hn0
      have hk1 : 1 ≤ k := by
        by_cases e : k = 0
        · subst e
          have h := D.eq
          have hl := D.len
          have e0 : cs = [] := List.eq_nil_of_length_eq_zero hl
          subst e0
          exfalso
          have hne := digs_ne 6 n0 [] h0
          exact hne h.symm
        · omega
      have hcs : cs = digs 7 n0 [] := by rw [← D.eq]; exact (digs_zero _ _).symm
      have HI : Hid (itoa n0 = strOf cs) := by unfold itoa; rw [if_neg (by omega), ← hcs]; rfl
      have hsl := slice55 w.heap.size k hk1 (by omega)
      have hbs : (Conv.bytesToString (.slice (some ⟨w.heap.size, 24 - k, none⟩) k k)).run Try.prog wr = .ok (.string (strOf cs)) wr := by
        refine run_bytesToString wr _ k k cs ?_
        have hl : (cs.map (Value.int .u8)).length = k := by rw [List.length_map, D.len]
        have := run_loadCells_list (P := Try.prog) wr ⟨w.heap.size, 24 - k, none⟩ (cs.map (Value.int .u8)) (fun j v hv => by
          have hj : j < k := by have := (List.getElem?_eq_some_iff.1 hv).1; omega
          rw [Addr.add_lit, D.cell j hj]
          rw [List.getElem?_map, List.getElem?_eq_getElem (by rw [D.len]; exact hj)] at hv
          rw [List.getD_eq_getElem?_getD, List.getElem?_eq_getElem (by rw [D.len]; exact hj)]
          exact hv)
        rw [hl] at this
        exact this
      have hbel := D.bel
      clear D hcs
      go_wp2
      go_ret
      exact ⟨by rw [HI.out]; rfl, hbel⟩

/-- zzItoa at an index. -/
theorem itoa_any (n : Nat) (w : World) (h1 : n ≤ 1048576) : Calls Try.prog 19 #[.int .i64 n] w fun e w' => e = .returned (.string (itoa n)) ∧ Below w.heap.size w w' := by
  by_cases h0 : n = 0
  · subst h0
    refine (itoa_zero 0 w (by omega)).mono ?_
    rintro e w' ⟨rfl, rfl⟩
    exact ⟨rfl, Below.refl _ _⟩
  · exact itoa_pos n w (by omega) h1
end Go.Proofs.Qxb6000028a
