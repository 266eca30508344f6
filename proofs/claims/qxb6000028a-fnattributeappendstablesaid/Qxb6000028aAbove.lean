import Derived.Test.Qxb6000028aFind
import Derived.Deep.QuietTactic
import Derived.BigQuiet
namespace Go.Proofs.Qxb6000028a
open Go.RowKit
theorem zero_eq (w : World) : (binOp .eql 46 AV.zero.agg AV.zero.agg).run Try.prog w = .ok (.bool true) w := by kernel_rfl
theorem pn23 (w : World) : (Op.equalIn 9999 23 (.pointer none) (.pointer none)).run Try.prog w = .ok true w := run_equalIn_pointer_nil w 9998 23 none Try.underlying23
theorem agg_eq (a : AV) (w : World) : (binOp .eql 46 a.agg a.agg).run Try.prog w = .ok (.bool true) w := by
  obtain ⟨nm, sc, li, de, un, mi⟩ := a
  unfold AV.agg
  rw [run_eql_struct]
  simp [go_sem, pn23]

/-! ### A region that draws and holds a call that makes memory: quiet over all worlds that lie above one -/
/-- A world that is as w was, below w's size. -/
structure Above (w : World) where
  val : World
  below : Below w.heap.size w val

theorem wp_region_above {P : Program} {id : Nat} {Q : Exit → Act → World → Prop} {a : Act} {w : World} {l : List Oper} (hm : P.follows .mixedOrders = true) (hB : Region.lexB .any l.toArray = true)
    (h : wpQuiet P l.toArray (fun w' => ∃ k : Above w, w' = k.val) (fun a' => ∀ w', (∃ k : Above w, w' = k.val) → Q .normal a' w') l a) : (Code.region id l.toArray true).wp P Q a w :=
  wp_region_quiet (C := fun w' => ∃ k : Above w, w' = k.val) hm hB ⟨⟨{ w with drawn := w.drawn + 1 }, ⟨rfl, rfl, rfl, Nat.le_refl _, fun _ _ => rfl⟩⟩, rfl⟩ (by simpa using h)
theorem above_cell {w : World} {a : Addr} {v : Value} (h : w.cell? a = some v) : ∀ k : Above w, k.val.cell? a = some v := fun k => (k.below.cell (block_lt_of_cell h)).trans h
end Go.Proofs.Qxb6000028a
