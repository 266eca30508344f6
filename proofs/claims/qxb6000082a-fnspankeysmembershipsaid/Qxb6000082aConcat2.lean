import Derived.Test.Qxb6000082aConcat
namespace Go.Proofs.Qxb6000082a
open Go.RowKit

theorem grow_zero (w : World) : Calls Try.prog 28 #[.slice none 0 0, .int .i64 0] w fun e w' => e = .returned (.slice none 0 0) ∧ w = w' := by
  go_enter Try.func28, Try.ntmps28
  go_wp2
  go_ret
  exact ⟨rfl, rfl⟩

set_option maxHeartbeats 1000000 in
theorem grow_pos (n : Nat) (w : World) (h0 : 0 < n) (hn : n ≤ 2097152) : Calls Try.prog 28 #[.slice none 0 0, .int .i64 n] w fun e w' =>
    ∃ G, e = .returned (.slice (some ⟨w.heap.size, 0, none⟩) 0 G) ∧ n ≤ G ∧ w'.ownsRow w.heap.size 5 1 (.slice (some ⟨w.heap.size, 0, none⟩) 0 G) 0 [] ∧ Below w.heap.size w w' := by
  obtain ⟨i0, hi, hz0, hz1, hz2⟩ := info_parts Try.info5
  have hrz : ∀ ty, (Builtin.append_ #[22, 3] ty #[.slice none 0 0, .int .i64 (n : Int)]).run Try.prog w =
      .ok (.slice (some ⟨w.heap.size, 0, none⟩) n (grownCap w n 0 5)) (w.drew.alloc (.cells (Builtin.zeroCells #[.int .u8 0] n ++ Builtin.zeroCells #[.int .u8 0] (grownCap w n 0 5 - n)) 5)) := fun ty => by
    have h := Lib.run_append_grow_zeros (P := Try.prog) w 22 3 ty 5 i0 (.int .u8 0) .i64 .i64 Try.underlying22 Try.underlying3 hi hz0 none 0 0 [] (run_firstCells_none w.drew i0.size 0 0 0) n h0 (by omega) (by omega) (by omega) (by rw [hz2]; omega) (by rw [Nat.zero_add]; exact growslice_fits (by omega) (by rw [hz2]; omega))
    rw [Nat.zero_add] at h
    simpa [Value.cells] using h
  have hGn : n ≤ grownCap w n 0 5 := grownCap_ge w _ _ _
  have hGm : grownCap w n 0 5 ≤ maxLen := grownCap_le_maxLen w n 0 5 (by unfold maxLen; omega)
  generalize grownCap w n 0 5 = G at hrz hGn hGm
  have hown : (w.drew.alloc (.cells (Builtin.zeroCells #[.int .u8 0] n ++ Builtin.zeroCells #[.int .u8 0] (G - n)) 5)).ownsRow w.heap.size 5 1 (.slice (some ⟨w.heap.size, 0, none⟩) 0 G) 0 [] :=
    World.ownsRow_made w.drew _ G (Nat.le_refl _) hGm (by simp [Builtin.zeroCells]; omega)
  have hbel : Below w.heap.size w (w.drew.alloc (.cells (Builtin.zeroCells #[.int .u8 0] n ++ Builtin.zeroCells #[.int .u8 0] (G - n)) 5)) := (Below.refl _ _).drew.alloc (Nat.le_refl _) _
  generalize (w.drew.alloc (.cells (Builtin.zeroCells #[.int .u8 0] n ++ Builtin.zeroCells #[.int .u8 0] (G - n)) 5)) = w' at hrz hown hbel
  unfold maxLen at hGm
  go_enter Try.func28, Try.ntmps28
  go_wp2_with (at_builtin; refine Lib.wpList_append_run _ rfl _ _ _ _ rfl _ _ rfl rfl _ _ (hrz _) ?_)
  go_ret
  exact ⟨G, rfl, hGn, hown, hbel⟩

theorem append_nothing (x : Option Addr) (c : Nat) (w : World) (ty : TypeId) : (Builtin.append_ #[22, 22] ty #[.slice none 0 0, .slice x 0 c]).run Try.prog w = .ok (.slice none 0 0) w := by
  obtain ⟨i0, hi, hz0, hz1, hz2⟩ := info_parts Try.info5
  cases x with
  | none => simp [Builtin.append_, run_underlying Try.underlying22, sizeOf, typeInfo, hi, Builtin.lenOf, Builtin.firstCells]
  | some a =>
    have hl : (loadCells a 0).run Try.prog w = .ok #[] w := by simpa using run_loadCells_list (P := Try.prog) w a [] (by simp)
    simp [Builtin.append_, run_underlying Try.underlying22, sizeOf, typeInfo, hi, Builtin.lenOf, Builtin.firstCells, hl]

set_option maxHeartbeats 1000000 in
/-- slices.Concat of two empty slices: nil. -/
theorem concat_zero (gs : Nat) (a b : Option Addr) (ca cb : Nat) (w : World) (h0 : w.cell? ⟨gs, 0, none⟩ = some (.slice a 0 ca)) (h1 : w.cell? ⟨gs, 1, none⟩ = some (.slice b 0 cb)) :
    Calls Try.prog 24 #[.slice (some ⟨gs, 0, none⟩) 2 2] w fun e w' => e = .returned (.slice none 0 0) ∧ w = w' := by
  go_enter Try.func24, Try.ntmps24
  go_wp2
  refine wp_loop_rounds 3 ?_; rw [rounds_succ]
  go_wp2
  rw [rounds_succ]
  go_wp2
  rw [rounds_succ]
  go_wp2_with (go_at_call 28; refine (grow_zero _).mono ?_; rintro e w' ⟨rfl, rfl⟩)
  refine wp_loop_rounds 3 ?_; rw [rounds_succ]
  go_wp2_with (at_builtin; refine Lib.wpList_append_run _ rfl _ _ 22 22 rfl (.slice none 0 0) (.slice a 0 ca) rfl rfl _ _ (append_nothing a ca _ _) ?_)
  rw [rounds_succ]
  go_wp2_with (at_builtin; refine Lib.wpList_append_run _ rfl _ _ 22 22 rfl (.slice none 0 0) (.slice b 0 cb) rfl rfl _ _ (append_nothing b cb _ _) ?_)
  rw [rounds_succ]
  go_wp2
  go_ret
  exact ⟨rfl, rfl⟩

set_option maxHeartbeats 2000000 in
/-- slices.Concat of two slices, not both empty: a new row. -/
theorem concat_pos (gs : Nat) (a b : Option Addr) (A B : List Int) (ca cb : Nat) (w : World) (ha : Sl w a A ca) (hb : Sl w b B cb) (hAB : A.length + B.length ≤ 2097152) (hp : 0 < A.length + B.length) (h0 : w.cell? ⟨gs, 0, none⟩ = some (.slice a A.length ca)) (h1 : w.cell? ⟨gs, 1, none⟩ = some (.slice b B.length cb)) :
    Calls Try.prog 24 #[.slice (some ⟨gs, 0, none⟩) 2 2] w fun e w' => ∃ G, e = .returned (.slice (some ⟨w.heap.size, 0, none⟩) (A ++ B).length G) ∧ w'.ownsRow w.heap.size 5 1 (.slice (some ⟨w.heap.size, 0, none⟩) (A ++ B).length G) (A ++ B).length ((A ++ B).map (Value.int .u8)) ∧ (A ++ B).length ≤ G ∧ Below w.heap.size w w' := by
  obtain ⟨i0, hi, hz0, hz1, hz2⟩ := info_parts Try.info5
  have hA := ha.small
  have hB := hb.small
  have GR := grow_pos (A.length + B.length) w hp hAB
  have eG : ((A.length + B.length : Nat) : Int) = (A.length : Int) + (B.length : Int) := by omega
  rw [eG] at GR
  clear eG
  go_enter Try.func24, Try.ntmps24
  go_wp2
  refine wp_loop_rounds 3 ?_; rw [rounds_succ]
  go_wp2
  rw [rounds_succ]
  go_wp2
  rw [rounds_succ]
  go_wp2_with (go_at_call 28; refine GR.mono ?_; rintro e w1 ⟨G, rfl, hG, hown1, hb1⟩)
  have ha1 := ha.later hb1
  have k0 : w1.cell? ⟨gs, 0, none⟩ = some (.slice a A.length ca) := (hb1.cell (p := ⟨gs, 0, none⟩) (block_lt_of_cell h0)).trans h0
  clear GR
  refine wp_loop_rounds 3 ?_; rw [rounds_succ]
  go_wp2_with (at_builtin; refine wpList_append_fits_any _ rfl _ _ 22 rfl w.heap.size 5 i0 1 Try.underlying22 hi hz1 w.heap.size 0 G [] rfl hown1 a A.length ca (A.map (Value.int .u8)) rfl (by simp) ha1.none0 ha1.cells (list_one A) (by omega) ?_; intro w2 hown2 hgrow2)
  simp only [Nat.zero_add, List.nil_append] at hown2 ⊢
  have hb2 : Below w.heap.size w w2 := hb1.grown hgrow2 hb1.size (fun k h => by cases h; exact Nat.le_refl _)
  have hbb2 := hb.later hb2
  have k1 : w2.cell? ⟨gs, 1, none⟩ = some (.slice b B.length cb) := (hb2.cell (p := ⟨gs, 1, none⟩) (block_lt_of_cell h1)).trans h1
  clear k0 hown1
  rw [rounds_succ]
  go_wp2_with (at_builtin; refine wpList_append_fits_any _ rfl _ _ 22 rfl w.heap.size 5 i0 1 Try.underlying22 hi hz1 w.heap.size A.length G _ rfl hown2 b B.length cb (B.map (Value.int .u8)) rfl (by simp) hbb2.none0 hbb2.cells (list_one B) (by omega) ?_; intro w3 hown3 hgrow3)
  rw [rounds_succ]
  go_wp2
  go_ret
  have hb3 : Below w.heap.size w w3 := hb2.grown hgrow3 hb2.size (fun k h => by cases h; exact Nat.le_refl _)
  rw [← List.map_append, ← List.length_append] at hown3
  exact ⟨G, by rw [List.length_append]; rfl, hown3, by rw [List.length_append]; exact hG, hb3⟩
end Go.Proofs.Qxb6000082a
