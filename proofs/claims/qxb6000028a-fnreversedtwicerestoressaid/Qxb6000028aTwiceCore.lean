import Derived.Test.Qxb6000028aTwice
import Derived.Test.Qxb6000028aLex
import Derived.Deep.DeepCutAuto
namespace Go.Proofs.Qxb6000028a
open Go.RowKit

theorem empty_of {s : ByteArray} (h : s.toList.isEmpty = true) : s = { data := #[] } := by
  obtain ⟨d⟩ := s
  rw [ByteArray.toList_eq] at h
  have e : d.toList = [] := by simpa using h
  have e3 : d = #[] := Array.toList_eq_nil_iff.1 e
  rw [e3]

set_option maxRecDepth 100000 in
set_option maxHeartbeats 4000000 in
theorem twice_core (a0 a1 a2 a3 : ByteArray) (t k i : Int) (self : Bool) (w0 : a0.size ≤ maxLen) (w1 : a1.size ≤ maxLen) (w2 : a2.size ≤ maxLen) (w3 : a3.size ≤ maxLen) (w : World) (hk1 : 1 ≤ k) (hk4 : k ≤ 4)
    (hs : k ≤ 2 → a3 = { data := #[] }) (hkin : k = 4 → kinOf w.heap.size i self = some ⟨w.heap.size, 0, none⟩) :
    Calls Try.prog 3 #[.string a0, .string a1, .string a2, .string a3, .int .i64 t, .int .i64 k, .int .i64 i, .bool self] w fun e w' => e = .returned (.bool true) ∧ Below w.heap.size w w' := by
  have Z := bytes8 a0 a1 a2 a3 t k i self w w0 w1 w2 w3
  have M := models_any i self w
  have hbM := models_below w
  have EK : Hid (keysInR (some ⟨w.heap.size, 0, none⟩) (keysInR (some ⟨tgtOf w.heap.size self, 0, none⟩) (kinOf w.heap.size i self) k) (swapK k) = kinOf w.heap.size i self) := kin_kin _ _ _ k hk1 hk4 hkin
  have ET : Hid (tkR (tkR a2 a3 k) (skR a2 k) (swapK k) = a2) := tk_tk a2 a3 k hk1 hk4
  have ES : Hid (skR (tkR a2 a3 k) (swapK k) = a3) := sk_sk a2 a3 k hk1 hk4 hs
  have EW : Hid (swapT (swapT t) = t) := swapT_T t
  have EV : Hid (swapK (swapK k) = k) := (swapK_K k hk1 hk4).1
  have hcase : (k ≤ 2 ∧ a3.toList.isEmpty = true ∧ (k == 4) = false) ∨ (2 < k ∧ (k == 4) = false) ∨ (2 < k ∧ (k == 4) = true ∧ (binOp .neq 23 (.pointer (kinOf w.heap.size i self)) (.pointer (some ⟨w.heap.size, 0, none⟩))).run Try.prog (models w) = .ok (.bool false) (models w)) := by
    by_cases h2 : k ≤ 2
    · exact .inl ⟨h2, by rw [hs h2]; kernel_rfl, by simp; omega⟩
    · by_cases h4 : k = 4
      · exact .inr (.inr ⟨by omega, by simpa using h4, by rw [hkin h4]; exact nsame23 _ _⟩)
      · exact .inr (.inl ⟨by omega, by simpa using h4⟩)
  clear hkin hs
  generalize hkv : kinOf w.heap.size i self = kin at M hcase EK
  generalize htv : tgtOf w.heap.size self = tg at M EK
  clear hkv htv
  unfold maxLen at w0 w1 w2 w3
  have A0 := assocAt_new (models w) a0 t (some ⟨w.heap.size, 0, none⟩) (some ⟨tg, 0, none⟩) k kin a2 a3 a1 (.string { data := #[] }) (.string { data := #[] }) (.string { data := #[] }) (.string { data := #[] }) (.string { data := #[] })
  have R1 := reversed_facts hk1 hk4 A0
  obtain ⟨hq1, hq4⟩ := (swapK_K k hk1 hk4).2
  go_enter Try.func3, Try.ntmps3
  go_upto_region 13 with (go_at_call 8; refine Z.mono ?_; rintro e w' ⟨⟨r, rfl⟩, rfl⟩)
  all_goals first | (go_ret; exact ⟨rfl, Below.refl _ _⟩) | skip
  go_cut [56] (fun c wx => c = .bool false ∧ w = wx)
  case first =>
    rcases hcase with ⟨g1, g2, g3⟩ | ⟨g1, g2⟩ | ⟨g1, g2, g3⟩
    all_goals
      go_wp2_with fail
      go_meet
      exact ⟨rfl, rfl⟩
  case rest =>
    obtain ⟨rfl, rfl⟩ := hcut
    go_upto_region 16 with (go_at_call 9; refine M.mono ?_; rintro e w' ⟨rfl, rfl⟩)
    go_cut [70] (fun c wx => c = .bool false ∧ models w = wx)
    case first =>
      rcases hcase with ⟨g1, g2, g3⟩ | ⟨g1, g2⟩ | ⟨g1, g2, g3⟩
      all_goals
        go_wp2_with fail
        go_meet
        exact ⟨rfl, rfl⟩
    case rest =>
      obtain ⟨rfl, rfl⟩ := hcut
      go_wp2_with fail
      refine R1.mono ?_
      rintro e v2 ⟨rfl, hA2, hB2, hS2⟩
      have hA3 : AssocAt v2 (models w).heap.size a0 t (some ⟨w.heap.size, 0, none⟩) (some ⟨tg, 0, none⟩) k kin a2 a3 a1 := A0.later hB2
      have hBv : Below w.heap.size w v2 := (hbM.alloc hbM.size _).trans (hB2.mono (by have := hbM.size; simp; omega))
      simp only [World.size_alloc] at hA2 hB2 hS2
      have R2 := reversed_facts hq1 hq4 hA2
      rw [EW.out, EV.out, EK.out, ET.out, ES.out] at R2
      have HN : Hid (v2.heap.size ≠ (models w).heap.size ∧ v2.heap.size ≠ (models w).heap.size + 1) := ⟨by omega, by omega⟩
      have sm := same23
      clear hS2 hB2 hbM A0
      go_wp2_with (go_at_call 10; refine R2.mono ?_; rintro e v3 ⟨rfl, hR, hB3, hS3⟩; have x1 := other26 HN.out.1 hR.blk (hA3.later hB3).blk; have x2 := other26 HN.out.2 hR.blk (hA2.later hB3).blk; obtain ⟨q0, q1, q2, q3, q4, q5, q6, q7, q8, q9⟩ := hR; obtain ⟨o0, o1, o2, o3, o4, o5, o6, o7, o8, o9⟩ := hA3.later hB3)
      have hBx : Below w.heap.size w v3 := hBv.trans (hB3.mono hBv.size)
      clear Z M R1 R2 EK ET ES EW EV HN hA2 hA3 w0 w1 w2 w3 hk1 hk4 hq1 hq4 x1 x2 hBv hB3 hS3 q9 o9 hcase
      simp only [List.append_eq, List.cons_append, List.nil_append]
      refine wp_region_quiet_lit (by kernel_rfl) ?hB ?_
      case hB =>
        refine lexB_of 98 (by kernel_rfl) (by kernel_rfl) ?_
        refine lexFrom_step 84 14 0 _ (by as_aux_lemma => kernel_rfl) ?_
        refine lexFrom_step 70 14 14 _ (by as_aux_lemma => kernel_rfl) ?_
        refine lexFrom_step 56 14 28 _ (by as_aux_lemma => kernel_rfl) ?_
        refine lexFrom_step 42 14 42 _ (by as_aux_lemma => kernel_rfl) ?_
        refine lexFrom_step 28 14 56 _ (by as_aux_lemma => kernel_rfl) ?_
        refine lexFrom_step 14 14 70 _ (by as_aux_lemma => kernel_rfl) ?_
        as_aux_lemma => kernel_rfl
      iterate 25 (go_big_quiet_step (fail))
      as_aux_lemma =>
        iterate 25 (go_big_quiet_step (fail))
        as_aux_lemma =>
          iterate 25 (go_big_quiet_step (fail))
          as_aux_lemma =>
            repeat (go_big_quiet_step (fail))
            refine wpQuiet_nil ?_
            intro _ hw'
            obtain ⟨nq, hw''⟩ := hw'
            subst hw''
            go_wp2
            go_ret
            exact ⟨rfl, ⟨hBx.os, hBx.tape, hBx.output, hBx.size, hBx.block⟩⟩

/-- FnReversedTwiceRestores, whole. -/
theorem twice_any (a0 a1 a2 a3 : ByteArray) (t k i : Int) (self : Bool) (w0 : a0.size ≤ maxLen) (w1 : a1.size ≤ maxLen) (w2 : a2.size ≤ maxLen) (w3 : a3.size ≤ maxLen) (w : World) :
    Calls Try.prog 3 #[.string a0, .string a1, .string a2, .string a3, .int .i64 t, .int .i64 k, .int .i64 i, .bool self] w fun e w' => e = .returned (.bool true) ∧ Below w.heap.size w w' := by
  by_cases hk : 1 ≤ k ∧ k ≤ 4
  · obtain ⟨hk1, hk4⟩ := hk
    by_cases hs : k ≤ 2 ∧ a3.toList.isEmpty = false
    · exact twice_named a0 a1 a2 a3 t k i self w0 w1 w2 w3 w hk1 hs.1 hs.2
    by_cases hl : k = 4 ∧ ¬ kinOf w.heap.size i self = some ⟨w.heap.size, 0, none⟩
    · exact twice_lists a0 a1 a2 a3 t k i self w0 w1 w2 w3 w (by simpa using hl.1) ⟨by omega, hk4⟩ hl.2
    refine twice_core a0 a1 a2 a3 t k i self w0 w1 w2 w3 w hk1 hk4 (fun h2 => empty_of ?_) (fun h4 => ?_)
    · cases h : a3.toList.isEmpty
      · exact absurd ⟨h2, h⟩ hs
      · rfl
    · exact Classical.byContradiction fun h => hl ⟨h4, h⟩
  · exact twice_out a0 a1 a2 a3 t k i self w0 w1 w2 w3 w (by omega)
end Go.Proofs.Qxb6000028a
