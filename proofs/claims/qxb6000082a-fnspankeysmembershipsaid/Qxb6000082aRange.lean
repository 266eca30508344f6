import Derived.Test.Qxb6000082aAfter
import Derived.Deep.DeepCutAuto
namespace Go.Proofs.Qxb6000082a
open Go.RowKit

/-- A pointer to a Bound: nil, or a block with the key and the mark. -/
def AtB (w : World) (p : Option Addr) (K : Option (List Int)) (x : Bool) : Prop :=
  match K with
  | none => p = none
  | some u => ∃ g o c, p = some ⟨g, 0, none⟩ ∧ w.cell? ⟨g, 0, none⟩ = some (.slice o u.length c) ∧ w.cell? ⟨g, 1, none⟩ = some (.bool x) ∧ Sl w o u c
theorem AtB.later {w w' : World} {p : Option Addr} {K : Option (List Int)} {x : Bool} (h : AtB w p K x) (hb : Below w.heap.size w w') : AtB w' p K x := by
  cases K with
  | none => exact h
  | some u =>
    obtain ⟨g, o, c, e, h0, h1, hs⟩ := h
    exact ⟨g, o, c, e, (hb.cell (block_lt_of_cell h0)).trans h0, (hb.cell (block_lt_of_cell h1)).trans h1, hs.later hb⟩
def lowOK (K : List Int) : Option (List Int) → Bool
  | none => true
  | some u => decide (¬ cmp K u < 0)
def upOK (K : List Int) : Option (List Int) → Bool
  | none => true
  | some u => decide (cmp K u < 0)

theorem below_dr {B : Nat} {w w' : World} (h : Below B w w') (n : Nat) : Below B w (w'.drewN n) := ⟨h.os, h.tape, h.output, h.size, h.block⟩
abbrev rng (lp up : Option Addr) : Value := .agg #[.pointer lp, .pointer up, .bool false, .int .i64 0]

theorem zeroRange_nil (w : World) : Calls Try.prog 10 #[rng none none] w fun e w' => e = .returned (.bool true) ∧ Below w.heap.size w w' := by
  go_enter Try.func10, Try.ntmps10
  go_wp2
  go_ret
  exact ⟨rfl, (Below.refl _ _).alloc (Nat.le_refl _) _⟩

theorem clone_gen (a : Option Addr) (len cap : Nat) (zs : List Int) (w : World) (hnil : a = none → len = 0 ∧ cap = 0) (hlz : len ≤ zs.length) (hm : len ≤ 1048576)
    (hc : ∀ x, a = some x → ∀ j, j < len → w.cell? (x.add j) = some (.int .u8 (zs.getD j 0))) (hby : ∀ b ∈ zs, 0 ≤ b ∧ b ≤ 255) :
    Calls Try.prog 6 #[.slice a len cap] w fun e w' => ∃ ao, e = .returned (.slice ao (zs.take len).length (zs.take len).length) ∧ (ao = none ↔ a = none) ∧ Sl w' ao (zs.take len) (zs.take len).length ∧ Below w.heap.size w w' := by
  have hlen : (zs.take len).length = len := by simp; omega
  have hby' : ∀ b ∈ zs.take len, 0 ≤ b ∧ b ≤ 255 := fun b hb => hby b (List.mem_of_mem_take hb)
  have hN : ∀ b ∈ ([] : List Int), 0 ≤ b ∧ b ≤ 255 := fun b hb => by cases hb
  cases a with
  | none =>
    obtain ⟨rfl, rfl⟩ := hnil rfl
    refine (clone_nil w).mono ?_
    rintro e w' ⟨rfl, rfl⟩
    exact ⟨none, rfl, by simp, ⟨fun _ => ⟨rfl, rfl⟩, Nat.le_refl _, fun x hx => (by cases hx), hby', by simp⟩, Below.refl _ _⟩
  | some x =>
    by_cases h0 : len = 0
    · subst h0
      refine (clone_empty x cap w).mono ?_
      rintro e w' ⟨rfl, hown, hb⟩
      exact ⟨_, rfl, by simp, Sl.own hown hN (by simp) (Nat.le_refl _), hb⟩
    · obtain ⟨b, off, sp⟩ := x
      have hsp : sp = none := by simpa [Addr.add] using World.cell?_spot (hc _ rfl 0 (by omega))
      subst hsp
      have hc' : ∀ j, j < len → w.cell? ⟨b, off + j, none⟩ = some (.int .u8 (zs.getD j 0)) := fun j hj => by have := hc _ rfl j hj; rwa [Addr.add_lit] at this
      have hb : b < w.heap.size := block_lt_of_cell (hc' 0 (by omega))
      refine (clone_row b off len cap zs w hlz hm hb hc').mono ?_
      rintro e w' ⟨rfl, hown, hbel⟩
      rw [hlen]
      refine ⟨_, rfl, by simp, ?_, hbel⟩
      refine Sl.own (B := w.heap.size) ?_ hby' (by omega) (by omega)
      rw [hlen]; exact hown

set_option maxHeartbeats 1000000 in
theorem inRange_any (lp up : Option Addr) (L U : Option (List Int)) (k : Option Addr) (K : List Int) (ck : Nat) (w : World) (hL : AtB w lp L false) (hU : AtB w up U true) (hk : Sl w k K ck) :
    Calls Try.prog 11 #[rng lp up, .slice k K.length ck] w fun e w' => e = .returned (.bool (lowOK K L && upOK K U)) ∧ Below w.heap.size w w' := by
  have hB1 : Below w.heap.size w (w.alloc (.cells #[.pointer lp, .pointer up, .bool false, .int .i64 0] 27)) := (Below.refl _ _).alloc (Nat.le_refl _) _
  have hK1 := hk.later hB1
  cases L with
  | none =>
    cases U with
    | none =>
      cases hL; cases hU
      clear hB1 hK1
      go_enter Try.func11, Try.ntmps11
      go_wp2
      go_ret
      exact ⟨rfl, (Below.refl _ _).alloc (Nat.le_refl _) _⟩
    | some v =>
      cases hL
      obtain ⟨g2, o2, c2, rfl, hv0, hv1, hv⟩ := hU
      have hV1 := hv.later hB1
      have CM := compare_any k o2 K v ck c2 _ hK1 hV1
      have hg2 := block_lt_of_cell hv0
      simp only [lowOK, upOK]
      rcases cmp_vals K v with hc | hc | hc <;> rw [hc] at CM ⊢ <;> clear hc
      all_goals
        clear hB1 hK1 hV1 hk hv
        go_enter Try.func11, Try.ntmps11
        go_wp2_with fail
        refine CM.mono ?_
        rintro e w' ⟨rfl, n, rfl⟩
        clear CM
        go_wp2
        go_ret
        exact ⟨rfl, below_dr ((Below.refl _ _).alloc (Nat.le_refl _) _) n⟩
  | some u =>
    obtain ⟨g1, o1, c1, rfl, hu0, hu1, hu⟩ := hL
    have hU1 := hu.later hB1
    have CM := compare_any k o1 K u ck c1 _ hK1 hU1
    have hg1 := block_lt_of_cell hu0
    cases U with
    | none =>
      cases hU
      simp only [lowOK, upOK]
      rcases cmp_vals K u with hc | hc | hc <;> rw [hc] at CM ⊢ <;> clear hc
      all_goals
        clear hB1 hK1 hU1 hk hu
        go_enter Try.func11, Try.ntmps11
        go_wp2_with fail
        refine CM.mono ?_
        rintro e w' ⟨rfl, n, rfl⟩
        clear CM
        go_wp2
        go_ret
        exact ⟨rfl, below_dr ((Below.refl _ _).alloc (Nat.le_refl _) _) n⟩
    | some v =>
      obtain ⟨g2, o2, c2, rfl, hv0, hv1, hv⟩ := hU
      have hV1 := hv.later hB1
      have CM2 := fun n => compare_any k o2 K v ck c2 _ (hK1.drew (n := n)) (hV1.drew (n := n))
      have hg2 := block_lt_of_cell hv0
      simp only [lowOK, upOK]
      rcases cmp_vals K u with hc | hc | hc <;> rw [hc] at CM ⊢ <;> clear hc
      · clear hB1 hK1 hU1 hk hu hV1 hv CM2
        go_enter Try.func11, Try.ntmps11
        go_wp2_with fail
        refine CM.mono ?_
        rintro e w' ⟨rfl, n, rfl⟩
        clear CM
        go_wp2
        go_ret
        exact ⟨rfl, below_dr ((Below.refl _ _).alloc (Nat.le_refl _) _) n⟩
      all_goals
        rcases cmp_vals K v with hc | hc | hc <;> rw [hc] at CM2 ⊢ <;> clear hc
        all_goals
          clear hB1 hK1 hU1 hk hu hV1 hv
          go_enter Try.func11, Try.ntmps11
          go_wp2_with fail
          refine CM.mono ?_
          rintro e w' ⟨rfl, n, rfl⟩
          clear CM
          go_wp2_with fail
          refine (CM2 n).mono ?_
          rintro e w' ⟨rfl, n2, rfl⟩
          clear CM2
          go_wp2
          go_ret
          exact ⟨rfl, below_dr ((Below.refl _ _).alloc (Nat.le_refl _) _) _⟩
end Go.Proofs.Qxb6000082a
