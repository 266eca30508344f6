import Derived.Test.Qxb6000028aRev
import Derived.Test.Qxb6000028aModels
import Derived.LaidEqlPtr
import Derived.Lib.Builder
namespace Go.Proofs.Qxb6000028a
open Go.RowKit

/-- The cells of an association that the methods look at. -/
structure AssocAt (w : World) (b : Nat) (s0 : ByteArray) (t : Int) (p2 p3 : Option Addr) (k : Int) (p5 : Option Addr) (s6 s7 s8 : ByteArray) : Prop where
  c0 : w.cell? ⟨b, 0, none⟩ = some (.string s0)
  c1 : w.cell? ⟨b, 1, none⟩ = some (.int .i64 t)
  c2 : w.cell? ⟨b, 2, none⟩ = some (.pointer p2)
  c3 : w.cell? ⟨b, 3, none⟩ = some (.pointer p3)
  c4 : w.cell? ⟨b, 4, none⟩ = some (.int .i64 k)
  c5 : w.cell? ⟨b, 5, none⟩ = some (.pointer p5)
  c6 : w.cell? ⟨b, 6, none⟩ = some (.string s6)
  c7 : w.cell? ⟨b, 7, none⟩ = some (.string s7)
  c8 : w.cell? ⟨b, 8, none⟩ = some (.string s8)
  blk : ∃ cs, w.heap[b]? = some (.cells cs 30 (0, 0))

theorem AssocAt.lt {w : World} {b : Nat} {s0 : ByteArray} {t : Int} {p2 p3 : Option Addr} {k : Int} {p5 : Option Addr} {s6 s7 s8 : ByteArray} (h : AssocAt w b s0 t p2 p3 k p5 s6 s7 s8) : b < w.heap.size := block_lt_of_cell h.c0

theorem AssocAt.later {w w' : World} {b : Nat} {s0 : ByteArray} {t : Int} {p2 p3 : Option Addr} {k : Int} {p5 : Option Addr} {s6 s7 s8 : ByteArray} (h : AssocAt w b s0 t p2 p3 k p5 s6 s7 s8) (hb : Below w.heap.size w w') : AssocAt w' b s0 t p2 p3 k p5 s6 s7 s8 := by
  have hl := h.lt
  have e : ∀ i, w'.cell? ⟨b, i, none⟩ = w.cell? ⟨b, i, none⟩ := fun i => hb.cell (p := ⟨b, i, none⟩) hl
  exact ⟨(e 0).trans h.c0, (e 1).trans h.c1, (e 2).trans h.c2, (e 3).trans h.c3, (e 4).trans h.c4, (e 5).trans h.c5, (e 6).trans h.c6, (e 7).trans h.c7, (e 8).trans h.c8, by rw [hb.block b hl]; exact h.blk⟩

/-- A new association. -/
theorem assocAt_new (w : World) (s0 : ByteArray) (t : Int) (p2 p3 : Option Addr) (k : Int) (p5 : Option Addr) (s6 s7 s8 : ByteArray) (c9 c10 c11 c12 c13 : Value) :
    AssocAt (w.alloc (.cells #[.string s0, .int .i64 t, .pointer p2, .pointer p3, .int .i64 k, .pointer p5, .string s6, .string s7, .string s8, c9, c10, c11, c12, c13] 30)) w.heap.size s0 t p2 p3 k p5 s6 s7 s8 :=
  ⟨by simp, by simp, by simp, by simp, by simp, by simp, by simp, by simp, by simp, ⟨_, heap_alloc_new w _⟩⟩

theorem reversed_facts {b : Nat} {s0 s6 s7 s8 : ByteArray} {p2 p3 p5 : Option Addr} {t k : Int} {w : World} (hk1 : 1 ≤ k) (hk4 : k ≤ 4) (h : AssocAt w b s0 t p2 p3 k p5 s6 s7 s8) :
    Calls Try.prog 10 #[.pointer (some ⟨b, 0, none⟩)] w fun e w' => e = .returned (.pointer (some ⟨w.heap.size, 0, none⟩)) ∧
      AssocAt w' w.heap.size s8 (swapT t) p3 p2 (swapK k) (keysInR p3 p5 k) (tkR s6 s7 k) (skR s6 k) s0 ∧ Below w.heap.size w w' ∧ w'.heap.size = w.heap.size + 1 := by
  refine (reversed_any b s0 s6 s7 s8 p2 p3 p5 t k w hk1 hk4 h.lt h.c0 h.c1 h.c2 h.c3 h.c4 h.c5 h.c6 h.c7 h.c8).mono ?_
  rintro e w' ⟨rfl, n, rfl⟩
  refine ⟨rfl, ?_, ?_, ?_⟩
  · have A := assocAt_new w s8 (swapT t) p3 p2 (swapK k) (keysInR p3 p5 k) (tkR s6 s7 k) (skR s6 k) s0 (.string { data := #[] }) (.string { data := #[] }) (.string { data := #[] }) (.string { data := #[] }) (.string { data := #[] })
    exact ⟨A.c0, A.c1, A.c2, A.c3, A.c4, A.c5, A.c6, A.c7, A.c8, A.blk⟩
  · have B := (Below.refl w.heap.size w).alloc (Nat.le_refl _) (revOf s0 s6 s7 s8 p2 p3 p5 t k)
    exact ⟨B.os, B.tape, B.output, B.size, B.block⟩
  · simp

theorem swapT_T (t : Int) : swapT (swapT t) = t := by unfold swapT; repeat (first | split | omega)
theorem swapK_K (k : Int) (h1 : 1 ≤ k) (h4 : k ≤ 4) : swapK (swapK k) = k ∧ 1 ≤ swapK k ∧ swapK k ≤ 4 := by unfold swapK; repeat (first | split | omega)
theorem swapK_four (k : Int) (h1 : 1 ≤ k) (h4 : k ≤ 4) : (swapK k = 4 ↔ k = 4) ∧ (3 ≤ swapK k ↔ 3 ≤ k) := by unfold swapK; constructor <;> (constructor <;> (repeat (first | split | omega)))
theorem tk_tk (s6 s7 : ByteArray) (k : Int) (h1 : 1 ≤ k) (h4 : k ≤ 4) : tkR (tkR s6 s7 k) (skR s6 k) (swapK k) = s6 := by
  have := (swapK_four k h1 h4).2
  unfold tkR skR; by_cases h : 3 ≤ k <;> simp [this, h]
theorem sk_sk (s6 s7 : ByteArray) (k : Int) (h1 : 1 ≤ k) (h4 : k ≤ 4) (hs : k ≤ 2 → s7 = { data := #[] }) : skR (tkR s6 s7 k) (swapK k) = s7 := by
  have := (swapK_four k h1 h4).2
  unfold tkR skR; by_cases h : 3 ≤ k
  · simp [this, h]
  · simp [this, h, hs (by omega)]
theorem kin_kin (p2 p3 p5 : Option Addr) (k : Int) (h1 : 1 ≤ k) (h4 : k ≤ 4) (hp : k = 4 → p5 = p2) : keysInR p2 (keysInR p3 p5 k) (swapK k) = p5 := by
  have := (swapK_four k h1 h4).1
  unfold keysInR; by_cases h : k = 4
  · rw [if_pos (this.2 h)]; exact (hp h).symm
  · rw [if_neg (fun e => h (this.1 e)), if_neg h]

/-- zzBytes answers something and does nothing. -/
theorem bytes8 (s0 s1 s2 s3 : ByteArray) (t k i : Int) (b : Bool) (w : World) (h0 : s0.size ≤ maxLen) (h1 : s1.size ≤ maxLen) (h2 : s2.size ≤ maxLen) (h3 : s3.size ≤ maxLen) : Calls Try.prog 8 #[.string s0, .string s1, .string s2, .string s3, .int .i64 t, .int .i64 k, .int .i64 i, .bool b] w fun e w' => (∃ r, e = .returned (.bool r)) ∧ w = w' := by
  unfold maxLen at h0 h1 h2 h3
  go_enter Try.func8, Try.ntmps8
  go_wp2
  all_goals (go_ret; exact ⟨⟨_, rfl⟩, rfl⟩)

/-! Pointers held against one another. -/
theorem Try.info54 : ∃ j, Try.prog.info? 54 = some j ∧ j.size ≠ 0 := by
  have h : (Try.prog.info? 54).map (fun i => i.size) = some 8 := by kernel_rfl
  obtain ⟨j, hj, e⟩ := Option.map_eq_some_iff.1 h
  exact ⟨j, hj, by omega⟩
theorem Try.info30 : ∃ j, Try.prog.info? 30 = some j ∧ j.size ≠ 0 := by
  have h : (Try.prog.info? 30).map (fun i => i.size) = some 14 := by kernel_rfl
  obtain ⟨j, hj, e⟩ := Option.map_eq_some_iff.1 h
  exact ⟨j, hj, by omega⟩

theorem same23 (p : Option Addr) (w : World) : (binOp .eql 23 (.pointer p) (.pointer p)).run Try.prog w = .ok (.bool true) w := by
  obtain ⟨j, hj, _⟩ := Try.info54
  cases p with
  | none => exact run_eql_pointer_nil w 23 none Try.underlying23
  | some a => exact run_eql_ptr_same w a Try.underlying23 hj
theorem nsame23 (a : Addr) (w : World) : (binOp .neq 23 (.pointer (some a)) (.pointer (some a))).run Try.prog w = .ok (.bool false) w := by
  obtain ⟨j, hj, _⟩ := Try.info54
  exact Lib.run_neq_ptr_same w a Try.underlying23 hj
theorem other26 {a b : Nat} {w : World} (hne : a ≠ b) (ha : ∃ cs, w.heap[a]? = some (.cells cs 30 (0, 0))) (hb : ∃ cs, w.heap[b]? = some (.cells cs 30 (0, 0))) :
    (binOp .eql 26 (.pointer (some ⟨a, 0, none⟩)) (.pointer (some ⟨b, 0, none⟩))).run Try.prog w = .ok (.bool false) w := by
  obtain ⟨j, hj, hs⟩ := Try.info30
  obtain ⟨ca, ha⟩ := ha
  obtain ⟨cb, hb⟩ := hb
  exact run_eql_ptr_other w (a := ⟨a, 0, none⟩) (b := ⟨b, 0, none⟩) Try.underlying26 hj hs (fun e => hne (congrArg Addr.block e)) ha hb
theorem nother23 {a b : Nat} {w : World} (hne : a ≠ b) (ha : ∃ cs, w.heap[a]? = some (.cells cs 54 (0, 0))) (hb : ∃ cs, w.heap[b]? = some (.cells cs 54 (0, 0))) :
    (binOp .neq 23 (.pointer (some ⟨a, 0, none⟩)) (.pointer (some ⟨b, 0, none⟩))).run Try.prog w = .ok (.bool true) w := by
  obtain ⟨j, hj, hs⟩ := Try.info54
  obtain ⟨ca, ha⟩ := ha
  obtain ⟨cb, hb⟩ := hb
  have h : ∀ d : Nat, (Op.equalIn (d + 1) 23 (.pointer (some ⟨a, 0, none⟩)) (.pointer (some ⟨b, 0, none⟩))).run Try.prog w = .ok false w := fun d => by
    simp [Op.equalIn, run_underlying Try.underlying23, sizeOf, typeInfo, hj, hs, run_sameAddr_other w (a := ⟨a, 0, none⟩) (b := ⟨b, 0, none⟩) (fun e => hne (congrArg Addr.block e)) ha hb]
  simp only [binOp]
  simp [Op.equal, Op.maxDepth, h 9999]

theorem models_below (w : World) : Below w.heap.size w (models w) := by
  unfold models
  exact (((Below.refl _ _).alloc (Nat.le_refl _) _).alloc (by simp) _).alloc (by simp; omega) _
theorem models_size (w : World) : (models w).heap.size = w.heap.size + 3 := by simp [models]
theorem models_blk (w : World) (i : Nat) (h : i < 3) : ∃ cs, (models w).heap[w.heap.size + i]? = some (.cells cs 54 (0, 0)) := by
  have h3 : i = 0 ∨ i = 1 ∨ i = 2 := by omega
  unfold models
  rcases h3 with rfl | rfl | rfl
  · rw [Below.heap_alloc _ _ _ (by simp; omega), Below.heap_alloc _ _ _ (by simp)]
    exact ⟨_, heap_alloc_new w _⟩
  · rw [Below.heap_alloc _ _ _ (by simp)]
    exact ⟨_, by rw [show w.heap.size + 1 = (w.alloc (zeroModel { data := #[115, 114, 99] })).heap.size by simp]; exact heap_alloc_new _ _⟩
  · exact ⟨_, by rw [show w.heap.size + 2 = ((w.alloc (zeroModel { data := #[115, 114, 99] })).alloc (zeroModel { data := #[116, 103, 116] })).heap.size by simp]; exact heap_alloc_new _ _⟩
theorem tgt_in (n : Nat) (self : Bool) : ∃ i, i < 3 ∧ tgtOf n self = n + i := by
  cases self
  · exact ⟨1, by omega, rfl⟩
  · exact ⟨0, by omega, rfl⟩
theorem kin_in (n : Nat) (i : Int) (self : Bool) : kinOf n i self = none ∨ ∃ j, j < 3 ∧ kinOf n i self = some ⟨n + j, 0, none⟩ := by
  unfold kinOf
  by_cases h1 : i = 1
  · exact .inr ⟨0, by omega, by simp [h1]⟩
  by_cases h2 : i = 2
  · obtain ⟨j, hj, e⟩ := tgt_in n self
    exact .inr ⟨j, hj, by simp [h2, e]⟩
  by_cases h3 : i = 3
  · exact .inr ⟨2, by omega, by simp [h3]⟩
  · exact .inl (by simp [h1, h2, h3])
/-- 'kin != src'. -/
theorem kin_neq (w : World) (i : Int) (self : Bool) (h : ¬ kinOf w.heap.size i self = some ⟨w.heap.size, 0, none⟩) :
    (binOp .neq 23 (.pointer (kinOf w.heap.size i self)) (.pointer (some ⟨w.heap.size, 0, none⟩))).run Try.prog (models w) = .ok (.bool true) (models w) := by
  rcases kin_in w.heap.size i self with e | ⟨j, hj, e⟩
  · rw [e]; kernel_rfl
  · rw [e]
    have hj0 : j ≠ 0 := fun z => h (by rw [e, z]; rfl)
    exact nother23 (by omega) (models_blk w j hj) (by simpa using models_blk w 0 (by omega))
end Go.Proofs.Qxb6000028a
