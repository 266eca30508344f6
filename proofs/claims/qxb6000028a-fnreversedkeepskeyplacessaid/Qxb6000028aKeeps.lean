import Derived.Test.Qxb6000028aPlace
import Derived.Deep.DeepCutAuto
namespace Go.Proofs.Qxb6000028a
open Go.RowKit

theorem below_dr {B : Nat} {w w' : World} (h : Below B w w') (n : Nat) : Below B w (w'.drewN n) := ⟨h.os, h.tape, h.output, h.size, h.block⟩

set_option maxRecDepth 100000 in
set_option maxHeartbeats 4000000 in
/-- The key holder is none of the four. -/
theorem keeps_out (a0 a1 a2 a3 a4 a5 : ByteArray) (t k i : Int) (self : Bool) (w0 : a0.size ≤ maxLen) (w1 : a1.size ≤ maxLen) (w2 : a2.size ≤ maxLen) (w3 : a3.size ≤ maxLen) (w4 : a4.size ≤ maxLen) (w5 : a5.size ≤ maxLen) (w : World) (hk : k < 1 ∨ 4 < k) :
    Calls Try.prog 4 #[.string a0, .string a1, .string a2, .string a3, .string a4, .string a5, .int .i64 t, .int .i64 k, .int .i64 i, .bool self] w fun e w' => e = .returned (.bool true) ∧ Below w.heap.size w w' := by
  have Z := bytes11 a0 a1 a2 a3 a4 a5 t k i self w w0 w1 w2 w3 w4 w5
  unfold maxLen at w0 w1 w2 w3 w4 w5
  rcases hk with hk | hk
  all_goals
    go_enter Try.func4, Try.ntmps4
    go_wp2_with (go_at_call 11; refine Z.mono ?_; rintro e w' ⟨⟨r, rfl⟩, rfl⟩)
    all_goals (go_ret; exact ⟨rfl, Below.refl _ _⟩)

set_option maxRecDepth 100000 in
set_option maxHeartbeats 2000000 in
theorem keeps_1 (a0 a1 a2 a3 a4 a5 : ByteArray) (t i : Int) (self : Bool) (w0 : a0.size ≤ maxLen) (w1 : a1.size ≤ maxLen) (w2 : a2.size ≤ maxLen) (w3 : a3.size ≤ maxLen) (w4 : a4.size ≤ maxLen) (w5 : a5.size ≤ maxLen) (w : World) :
    Calls Try.prog 4 #[.string a0, .string a1, .string a2, .string a3, .string a4, .string a5, .int .i64 t, .int .i64 1, .int .i64 i, .bool self] w fun e w' => e = .returned (.bool true) ∧ Below w.heap.size w w' := by
  have Z := bytes11 a0 a1 a2 a3 a4 a5 t 1 i self w w0 w1 w2 w3 w4 w5
  have M := models_any i self w
  have hbM := models_below w
  generalize hkv : kinOf w.heap.size i self = kin at M
  generalize htv : tgtOf w.heap.size self = tg at M
  clear hkv htv
  unfold maxLen at w0 w1 w2 w3 w4 w5
  have A0 := assocAt_new (models w) a0 t (some ⟨w.heap.size, 0, none⟩) (some ⟨tg, 0, none⟩) 1 kin a2 a3 a1 (.string a4) (.string a5) (.string { data := #[] }) (.string { data := #[] }) (.string { data := #[] })
  have R1 := reversed_facts (by omega) (by omega) A0
  go_enter Try.func4, Try.ntmps4
  go_wp2_with (first | (go_at_call 11; refine Z.mono ?_; rintro e w' ⟨⟨r, rfl⟩, rfl⟩) | (go_at_call 9; refine M.mono ?_; rintro e w' ⟨rfl, rfl⟩))
  all_goals first | (go_ret; exact ⟨rfl, Below.refl _ _⟩) | skip
  refine R1.mono ?_
  rintro e v2 ⟨rfl, hA2, hB2, hS2⟩
  have hA3 := A0.later hB2
  have hBv : Below w.heap.size w v2 := (hbM.alloc hbM.size _).trans (hB2.mono (by have := hbM.size; simp; omega))
  simp only [World.size_alloc] at hA2
  have eK : swapK 1 = 2 := rfl
  have eT : tkR a2 a3 1 = a2 := rfl
  have eS : skR a2 1 = { data := #[] } := rfl
  rw [eK, eT, eS] at hA2
  have P1 := place_1 hA3
  have sm := same23
  clear hbM A0 Z M R1 eK eT eS hB2 hS2 w0 w1 w2 w3 w4 w5
  go_wp2_with fail
  refine P1.mono ?_
  rintro e v3 ⟨rfl, n3, rfl⟩
  have P2 := place_2 (hA2.drew (n := n3))
  obtain ⟨q0, q1, q2, q3, q4, q5, q6, q7, q8, q9⟩ := hA2
  obtain ⟨o0, o1, o2, o3, o4, o5, o6, o7, o8, o9⟩ := hA3
  clear P1 q9 o9
  go_wp2_with fail
  refine P2.mono ?_
  rintro e v4 ⟨rfl, n4, rfl⟩
  clear P2
  go_wp2
  go_quiet (fail)
  go_wp2
  go_ret
  exact ⟨rfl, below_dr hBv _⟩

set_option maxRecDepth 100000 in
set_option maxHeartbeats 2000000 in
theorem keeps_2 (a0 a1 a2 a3 a4 a5 : ByteArray) (t i : Int) (self : Bool) (w0 : a0.size ≤ maxLen) (w1 : a1.size ≤ maxLen) (w2 : a2.size ≤ maxLen) (w3 : a3.size ≤ maxLen) (w4 : a4.size ≤ maxLen) (w5 : a5.size ≤ maxLen) (w : World) :
    Calls Try.prog 4 #[.string a0, .string a1, .string a2, .string a3, .string a4, .string a5, .int .i64 t, .int .i64 2, .int .i64 i, .bool self] w fun e w' => e = .returned (.bool true) ∧ Below w.heap.size w w' := by
  have Z := bytes11 a0 a1 a2 a3 a4 a5 t 2 i self w w0 w1 w2 w3 w4 w5
  have M := models_any i self w
  have hbM := models_below w
  generalize hkv : kinOf w.heap.size i self = kin at M
  generalize htv : tgtOf w.heap.size self = tg at M
  clear hkv htv
  unfold maxLen at w0 w1 w2 w3 w4 w5
  have A0 := assocAt_new (models w) a0 t (some ⟨w.heap.size, 0, none⟩) (some ⟨tg, 0, none⟩) 2 kin a2 a3 a1 (.string a4) (.string a5) (.string { data := #[] }) (.string { data := #[] }) (.string { data := #[] })
  have R1 := reversed_facts (by omega) (by omega) A0
  go_enter Try.func4, Try.ntmps4
  go_wp2_with (first | (go_at_call 11; refine Z.mono ?_; rintro e w' ⟨⟨r, rfl⟩, rfl⟩) | (go_at_call 9; refine M.mono ?_; rintro e w' ⟨rfl, rfl⟩))
  all_goals first | (go_ret; exact ⟨rfl, Below.refl _ _⟩) | skip
  refine R1.mono ?_
  rintro e v2 ⟨rfl, hA2, hB2, hS2⟩
  have hA3 := A0.later hB2
  have hBv : Below w.heap.size w v2 := (hbM.alloc hbM.size _).trans (hB2.mono (by have := hbM.size; simp; omega))
  simp only [World.size_alloc] at hA2
  have eK : swapK 2 = 1 := rfl
  have eT : tkR a2 a3 2 = a2 := rfl
  have eS : skR a2 2 = { data := #[] } := rfl
  rw [eK, eT, eS] at hA2
  have P1 := place_2 hA3
  have sm := same23
  clear hbM A0 Z M R1 eK eT eS hB2 hS2 w0 w1 w2 w3 w4 w5
  go_wp2_with fail
  refine P1.mono ?_
  rintro e v3 ⟨rfl, n3, rfl⟩
  have P2 := place_1 (hA2.drew (n := n3))
  obtain ⟨q0, q1, q2, q3, q4, q5, q6, q7, q8, q9⟩ := hA2
  obtain ⟨o0, o1, o2, o3, o4, o5, o6, o7, o8, o9⟩ := hA3
  clear P1 q9 o9
  go_wp2_with fail
  refine P2.mono ?_
  rintro e v4 ⟨rfl, n4, rfl⟩
  clear P2
  go_wp2
  go_quiet (fail)
  go_wp2
  go_ret
  exact ⟨rfl, below_dr hBv _⟩

theorem some23 {a b : Nat} {w : World} (ha : ∃ cs, w.heap[a]? = some (.cells cs 54 (0, 0))) (hb : ∃ cs, w.heap[b]? = some (.cells cs 54 (0, 0))) :
    ∃ B, (binOp .eql 23 (.pointer (some ⟨a, 0, none⟩)) (.pointer (some ⟨b, 0, none⟩))).run Try.prog w = .ok (.bool B) w := by
  obtain ⟨j, hj, hs⟩ := Try.info54
  by_cases hne : a = b
  · subst hne; exact ⟨true, same23 _ _⟩
  · obtain ⟨ca, ha⟩ := ha
    obtain ⟨cb, hb⟩ := hb
    exact ⟨false, run_eql_ptr_other w (a := ⟨a, 0, none⟩) (b := ⟨b, 0, none⟩) Try.underlying23 hj hs (fun e => hne (congrArg Addr.block e)) ha hb⟩

set_option maxRecDepth 100000 in
set_option maxHeartbeats 2000000 in
theorem keeps_3 (a0 a1 a2 a3 a4 a5 : ByteArray) (t i : Int) (self : Bool) (w0 : a0.size ≤ maxLen) (w1 : a1.size ≤ maxLen) (w2 : a2.size ≤ maxLen) (w3 : a3.size ≤ maxLen) (w4 : a4.size ≤ maxLen) (w5 : a5.size ≤ maxLen) (w : World) :
    Calls Try.prog 4 #[.string a0, .string a1, .string a2, .string a3, .string a4, .string a5, .int .i64 t, .int .i64 3, .int .i64 i, .bool self] w fun e w' => e = .returned (.bool true) ∧ Below w.heap.size w w' := by
  have Z := bytes11 a0 a1 a2 a3 a4 a5 t 3 i self w w0 w1 w2 w3 w4 w5
  have M := models_any i self w
  have hbM := models_below w
  generalize hkv : kinOf w.heap.size i self = kin at M
  generalize htv : tgtOf w.heap.size self = tg at M
  clear hkv htv
  unfold maxLen at w0 w1 w2 w3 w4 w5
  have A0 := assocAt_new (models w) a0 t (some ⟨w.heap.size, 0, none⟩) (some ⟨tg, 0, none⟩) 3 kin a2 a3 a1 (.string a4) (.string a5) (.string { data := #[] }) (.string { data := #[] }) (.string { data := #[] })
  have R1 := reversed_facts (by omega) (by omega) A0
  go_enter Try.func4, Try.ntmps4
  go_wp2_with (first | (go_at_call 11; refine Z.mono ?_; rintro e w' ⟨⟨r, rfl⟩, rfl⟩) | (go_at_call 9; refine M.mono ?_; rintro e w' ⟨rfl, rfl⟩))
  all_goals first | (go_ret; exact ⟨rfl, Below.refl _ _⟩) | skip
  refine R1.mono ?_
  rintro e v2 ⟨rfl, hA2, hB2, hS2⟩
  have hA3 := A0.later hB2
  have hBv : Below w.heap.size w v2 := (hbM.alloc hbM.size _).trans (hB2.mono (by have := hbM.size; simp; omega))
  simp only [World.size_alloc] at hA2
  have eK : swapK 3 = 3 := rfl
  have eT : tkR a2 a3 3 = a3 := rfl
  have eS : skR a2 3 = a2 := rfl
  have eI : keysInR (some ⟨tg, 0, none⟩) kin 3 = kin := rfl
  rw [eK, eT, eS, eI] at hA2
  have P1 := place_3 hA3
  have sm := same23
  clear hbM A0 Z M R1 eK eT eS eI hB2 hS2 w0 w1 w2 w3 w4 w5
  go_wp2_with fail
  refine P1.mono ?_
  rintro e v3 ⟨rfl, n3, rfl⟩
  have P2 := place_3 (hA2.drew (n := n3))
  obtain ⟨q0, q1, q2, q3, q4, q5, q6, q7, q8, q9⟩ := hA2
  obtain ⟨o0, o1, o2, o3, o4, o5, o6, o7, o8, o9⟩ := hA3
  clear P1 q9 o9
  go_wp2_with fail
  refine P2.mono ?_
  rintro e v4 ⟨rfl, n4, rfl⟩
  clear P2
  go_wp2
  go_quiet (fail)
  go_wp2
  all_goals (go_ret; exact ⟨rfl, below_dr hBv _⟩)

set_option maxRecDepth 100000 in
set_option maxHeartbeats 2000000 in
theorem keeps_4 (a0 a1 a2 a3 a4 a5 : ByteArray) (t i : Int) (self : Bool) (w0 : a0.size ≤ maxLen) (w1 : a1.size ≤ maxLen) (w2 : a2.size ≤ maxLen) (w3 : a3.size ≤ maxLen) (w4 : a4.size ≤ maxLen) (w5 : a5.size ≤ maxLen) (w : World) :
    Calls Try.prog 4 #[.string a0, .string a1, .string a2, .string a3, .string a4, .string a5, .int .i64 t, .int .i64 4, .int .i64 i, .bool self] w fun e w' => e = .returned (.bool true) ∧ Below w.heap.size w w' := by
  have Z := bytes11 a0 a1 a2 a3 a4 a5 t 4 i self w w0 w1 w2 w3 w4 w5
  have M := models_any i self w
  have hbM := models_below w
  generalize hkv : kinOf w.heap.size i self = kin at M
  obtain ⟨jt, hjt, ejt⟩ := tgt_in w.heap.size self
  have bs := models_blk w 0 (by omega)
  have bt := models_blk w jt hjt
  rw [← ejt] at bt
  rw [Nat.add_zero] at bs
  have hlt : tgtOf w.heap.size self < (models w).heap.size := by rw [ejt, models_size]; omega
  have hls : w.heap.size < (models w).heap.size := by rw [models_size]; omega
  clear ejt
  generalize htv : tgtOf w.heap.size self = tg at M bt hlt
  clear hkv htv
  unfold maxLen at w0 w1 w2 w3 w4 w5
  have A0 := assocAt_new (models w) a0 t (some ⟨w.heap.size, 0, none⟩) (some ⟨tg, 0, none⟩) 4 kin a2 a3 a1 (.string a4) (.string a5) (.string { data := #[] }) (.string { data := #[] }) (.string { data := #[] })
  have R1 := reversed_facts (by omega) (by omega) A0
  go_enter Try.func4, Try.ntmps4
  go_wp2_with (first | (go_at_call 11; refine Z.mono ?_; rintro e w' ⟨⟨r, rfl⟩, rfl⟩) | (go_at_call 9; refine M.mono ?_; rintro e w' ⟨rfl, rfl⟩))
  all_goals first | (go_ret; exact ⟨rfl, Below.refl _ _⟩) | skip
  refine R1.mono ?_
  rintro e v2 ⟨rfl, hA2, hB2, hS2⟩
  have hA3 := A0.later hB2
  have hBv : Below w.heap.size w v2 := (hbM.alloc hbM.size _).trans (hB2.mono (by have := hbM.size; simp; omega))
  have bs2 : ∃ cs, v2.heap[w.heap.size]? = some (.cells cs 54 (0, 0)) := by
    rw [hB2.block _ (by simp; omega), Below.heap_alloc _ _ _ hls]; exact bs
  have bt2 : ∃ cs, v2.heap[tg]? = some (.cells cs 54 (0, 0)) := by
    rw [hB2.block _ (by simp; omega), Below.heap_alloc _ _ _ hlt]; exact bt
  clear bs bt hlt hls
  simp only [World.size_alloc] at hA2
  have eK : swapK 4 = 4 := rfl
  have eT : tkR a2 a3 4 = a3 := rfl
  have eS : skR a2 4 = a2 := rfl
  have eI : keysInR (some ⟨tg, 0, none⟩) kin 4 = some ⟨tg, 0, none⟩ := rfl
  rw [eK, eT, eS, eI] at hA2
  have P1 := place_4 hA3
  have sm := same23
  clear hbM A0 Z M R1 eK eT eS eI hB2 hS2 w0 w1 w2 w3 w4 w5
  go_wp2_with fail
  refine P1.mono ?_
  rintro e v3 ⟨rfl, n3, rfl⟩
  have P2 := place_4 (hA2.drew (n := n3))
  obtain ⟨q0, q1, q2, q3, q4, q5, q6, q7, q8, q9⟩ := hA2
  obtain ⟨o0, o1, o2, o3, o4, o5, o6, o7, o8, o9⟩ := hA3
  clear P1 q9 o9
  go_wp2_with fail
  refine P2.mono ?_
  rintro e v4 ⟨rfl, n4, rfl⟩
  clear P2
  go_wp2
  go_quiet (fail)
  obtain ⟨B1, x1⟩ := some23 (w := v2.drewN (n3 + n4 + nq)) bs2 bt2
  obtain ⟨B2, x2⟩ := some23 (w := v2.drewN (n3 + n4 + nq)) bt2 bs2
  go_wp2
  all_goals (go_ret; exact ⟨rfl, below_dr hBv _⟩)

end Go.Proofs.Qxb6000028a
