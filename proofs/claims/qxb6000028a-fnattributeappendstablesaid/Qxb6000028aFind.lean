import Derived.Test.Qxb6000028aAttrPlain
namespace Go.Proofs.Qxb6000028a
open Go.RowKit

/-- An attribute as the laws lay them. -/
structure AV where
  name : ByteArray
  scalar : Int
  list : Bool
  desc : ByteArray
  unique : Bool
  mirror : ByteArray
def AV.cells (a : AV) : List Value := [.string a.name, .int .i64 a.scalar, .bool a.list, .string a.desc, .bool false, .pointer none, .bool a.unique, .string { data := #[] }, .string a.mirror]
def AV.agg (a : AV) : Value := .agg #[.string a.name, .int .i64 a.scalar, .bool a.list, .string a.desc, .bool false, .pointer none, .bool a.unique, .string { data := #[] }, .string a.mirror]
def AV.zero : AV := ⟨{ data := #[] }, 0, false, { data := #[] }, false, { data := #[] }⟩

set_option maxHeartbeats 1000000 in
theorem find_any (M G n cap : Nat) (at_ : Nat → AV) (q : ByteArray) (w : World) (hn : n ≤ 65537) (hG : G < w.heap.size) (hM : w.cell? ⟨M, 4, none⟩ = some (.slice (some ⟨G, 0, none⟩) n cap))
    (hc : ∀ i, i < n → ∀ j, j < 9 → w.cell? ⟨G, i * 9 + j, none⟩ = (at_ i).cells[j]?) :
    Calls Try.prog 18 #[.pointer (some ⟨M, 0, none⟩), .string q] w fun e w' => ((∃ k, k < n ∧ ((at_ k).name.toList == q.toList) = true ∧ (∀ j, j < k → ((at_ j).name.toList == q.toList) = false) ∧ e = .returned (.tuple #[(at_ k).agg, .bool true])) ∨
      ((∀ j, j < n → ((at_ j).name.toList == q.toList) = false) ∧ e = .returned (.tuple #[AV.zero.agg, .bool false]))) ∧ Below w.heap.size w w' := by
  have hMl : M < w.heap.size := block_lt_of_cell hM
  go_enter Try.func18, Try.ntmps18
  go_wp2
  go_loopw [13] (fun i wr => ∃ k : Nat, k ≤ n ∧ i = .int .i64 k ∧ (∀ j, j < k → ((at_ j).name.toList == q.toList) = false) ∧ Below (w.heap.size + 1) (w.alloc (.cells AV.zero.cells.toArray 46)) wr) (fun i _ => n - (intOf i).toNat)
  case atStart => exact ⟨0, Nat.zero_le _, rfl, fun j h => by omega, Below.refl _ _⟩
  case round =>
    obtain ⟨k, hk, rfl, hno, hbel⟩ := hrel
    have HNo : Hid (∀ j, j < k → ((at_ j).name.toList == q.toList) = false) := hno
    clear hno
    by_cases hlt : k < n
    · have hg : ∀ j, j < 9 → wr.cell? ⟨G, k * 9 + j, none⟩ = (at_ k).cells[j]? := fun j hj => (hbel.cell (p := ⟨G, k * 9 + j, none⟩) (by exact Nat.lt_succ_of_lt hG)).trans ((World.cell?_alloc_lt _ _ _ hG).trans (hc k hlt j hj))
      have g0 := hg 0 (by omega)
      have g1 := hg 1 (by omega)
      have g2 := hg 2 (by omega)
      have g3 := hg 3 (by omega)
      have g4 := hg 4 (by omega)
      have g5 := hg 5 (by omega)
      have g6 := hg 6 (by omega)
      have g7 := hg 7 (by omega)
      have g8 := hg 8 (by omega)
      clear hg hc hM
      generalize hav : at_ k = av at g0 g1 g2 g3 g4 g5 g6 g7 g8
      have HA : Hid (at_ k = av) := hav
      clear hav
      obtain ⟨nm, sc, li, de, un, mi⟩ := av
      simp only [AV.cells, Nat.add_zero, List.getElem?_cons_zero, List.getElem?_cons_succ] at g0 g1 g2 g3 g4 g5 g6 g7 g8
      have r0 : wr.cell? ⟨w.heap.size, 0, none⟩ = some (.string { data := #[] }) := (hbel.cell (p := ⟨w.heap.size, 0, none⟩) (by exact Nat.lt_succ_self _)).trans (by simp [AV.cells, AV.zero])
      have r1 : wr.cell? ⟨w.heap.size, 1, none⟩ = some (.int .i64 0) := (hbel.cell (p := ⟨w.heap.size, 1, none⟩) (by exact Nat.lt_succ_self _)).trans (by simp [AV.cells, AV.zero])
      have r2 : wr.cell? ⟨w.heap.size, 2, none⟩ = some (.bool false) := (hbel.cell (p := ⟨w.heap.size, 2, none⟩) (by exact Nat.lt_succ_self _)).trans (by simp [AV.cells, AV.zero])
      have r3 : wr.cell? ⟨w.heap.size, 3, none⟩ = some (.string { data := #[] }) := (hbel.cell (p := ⟨w.heap.size, 3, none⟩) (by exact Nat.lt_succ_self _)).trans (by simp [AV.cells, AV.zero])
      have r4 : wr.cell? ⟨w.heap.size, 4, none⟩ = some (.bool false) := (hbel.cell (p := ⟨w.heap.size, 4, none⟩) (by exact Nat.lt_succ_self _)).trans (by simp [AV.cells, AV.zero])
      have r5 : wr.cell? ⟨w.heap.size, 5, none⟩ = some (.pointer none) := (hbel.cell (p := ⟨w.heap.size, 5, none⟩) (by exact Nat.lt_succ_self _)).trans (by simp [AV.cells, AV.zero])
      have r6 : wr.cell? ⟨w.heap.size, 6, none⟩ = some (.bool false) := (hbel.cell (p := ⟨w.heap.size, 6, none⟩) (by exact Nat.lt_succ_self _)).trans (by simp [AV.cells, AV.zero])
      have r7 : wr.cell? ⟨w.heap.size, 7, none⟩ = some (.string { data := #[] }) := (hbel.cell (p := ⟨w.heap.size, 7, none⟩) (by exact Nat.lt_succ_self _)).trans (by simp [AV.cells, AV.zero])
      have r8 : wr.cell? ⟨w.heap.size, 8, none⟩ = some (.string { data := #[] }) := (hbel.cell (p := ⟨w.heap.size, 8, none⟩) (by exact Nat.lt_succ_self _)).trans (by simp [AV.cells, AV.zero])
      have hf : ∀ o, wr.frozen? ⟨w.heap.size, o, none⟩ = false := fun o => (hbel.frozen (p := ⟨w.heap.size, o, none⟩) (by exact Nat.lt_succ_self _)).trans (by simp)
      have hsz : w.heap.size < wr.heap.size := block_lt_of_cell r0
      have hbw : Below w.heap.size w wr := ((Below.refl _ _).alloc (Nat.le_refl _) _).trans (hbel.mono (by omega))
      by_cases heq : (nm.toList == q.toList) = true
      · clear hbel
        go_wp2
        refine bodyPost_ret (v := .tuple #[.agg #[.string nm, .int .i64 sc, .bool li, .string de, .bool false, .pointer none, .bool un, .string { data := #[] }, .string mi], .bool true]) (by simp [results, Try.results18, go_sem, hsz, r0, r1, r2, r3, r4, r5, r6, r7, r8]) rfl ⟨.inl ⟨k, hlt, by rw [HA.out]; exact heq, HNo.out, by rw [HA.out]; rfl⟩, ?_⟩
        have X := (((((((((hbw.setCell (p := ⟨w.heap.size, 0, none⟩) (Nat.le_refl _) (.string nm)).setCell (p := ⟨w.heap.size, 1, none⟩) (Nat.le_refl _) (.int .i64 sc)).setCell (p := ⟨w.heap.size, 2, none⟩) (Nat.le_refl _) (.bool li)).setCell (p := ⟨w.heap.size, 3, none⟩) (Nat.le_refl _) (.string de)).setCell (p := ⟨w.heap.size, 4, none⟩) (Nat.le_refl _) (.bool false)).setCell (p := ⟨w.heap.size, 5, none⟩) (Nat.le_refl _) (.pointer none)).setCell (p := ⟨w.heap.size, 6, none⟩) (Nat.le_refl _) (.bool un)).setCell (p := ⟨w.heap.size, 7, none⟩) (Nat.le_refl _) (.string { data := #[] })).setCell (p := ⟨w.heap.size, 8, none⟩) (Nat.le_refl _) (.string mi))
        exact X.alloc X.size _
      · have heq' : (nm.toList == q.toList) = false := by simpa using heq
        clear heq
        go_wp2
        go_roundw
        case rel =>
          refine ⟨k + 1, by omega, by go_num, fun j hj => ?_, hbel.alloc (by omega) _⟩
          by_cases e : j = k
          · subst e; rw [HA.out]; exact heq'
          · exact HNo.out j (by omega)
        case measure => simp [intOf]; omega
    · have hkn : k = n := by omega
      subst hkn
      clear hc hM
      have r0 : wr.cell? ⟨w.heap.size, 0, none⟩ = some (.string { data := #[] }) := (hbel.cell (p := ⟨w.heap.size, 0, none⟩) (by exact Nat.lt_succ_self _)).trans (by simp [AV.cells, AV.zero])
      have r1 : wr.cell? ⟨w.heap.size, 1, none⟩ = some (.int .i64 0) := (hbel.cell (p := ⟨w.heap.size, 1, none⟩) (by exact Nat.lt_succ_self _)).trans (by simp [AV.cells, AV.zero])
      have r2 : wr.cell? ⟨w.heap.size, 2, none⟩ = some (.bool false) := (hbel.cell (p := ⟨w.heap.size, 2, none⟩) (by exact Nat.lt_succ_self _)).trans (by simp [AV.cells, AV.zero])
      have r3 : wr.cell? ⟨w.heap.size, 3, none⟩ = some (.string { data := #[] }) := (hbel.cell (p := ⟨w.heap.size, 3, none⟩) (by exact Nat.lt_succ_self _)).trans (by simp [AV.cells, AV.zero])
      have r4 : wr.cell? ⟨w.heap.size, 4, none⟩ = some (.bool false) := (hbel.cell (p := ⟨w.heap.size, 4, none⟩) (by exact Nat.lt_succ_self _)).trans (by simp [AV.cells, AV.zero])
      have r5 : wr.cell? ⟨w.heap.size, 5, none⟩ = some (.pointer none) := (hbel.cell (p := ⟨w.heap.size, 5, none⟩) (by exact Nat.lt_succ_self _)).trans (by simp [AV.cells, AV.zero])
      have r6 : wr.cell? ⟨w.heap.size, 6, none⟩ = some (.bool false) := (hbel.cell (p := ⟨w.heap.size, 6, none⟩) (by exact Nat.lt_succ_self _)).trans (by simp [AV.cells, AV.zero])
      have r7 : wr.cell? ⟨w.heap.size, 7, none⟩ = some (.string { data := #[] }) := (hbel.cell (p := ⟨w.heap.size, 7, none⟩) (by exact Nat.lt_succ_self _)).trans (by simp [AV.cells, AV.zero])
      have r8 : wr.cell? ⟨w.heap.size, 8, none⟩ = some (.string { data := #[] }) := (hbel.cell (p := ⟨w.heap.size, 8, none⟩) (by exact Nat.lt_succ_self _)).trans (by simp [AV.cells, AV.zero])
      have hf : ∀ o, wr.frozen? ⟨w.heap.size, o, none⟩ = false := fun o => (hbel.frozen (p := ⟨w.heap.size, o, none⟩) (by exact Nat.lt_succ_self _)).trans (by simp)
      have hbw : Below w.heap.size w wr := ((Below.refl _ _).alloc (Nat.le_refl _) _).trans (hbel.mono (by omega))
      clear hbel
      go_wp2
      refine bodyPost_ret (v := .tuple #[.agg #[.string { data := #[] }, .int .i64 0, .bool false, .string { data := #[] }, .bool false, .pointer none, .bool false, .string { data := #[] }, .string { data := #[] }], .bool false]) (by simp [results, Try.results18, go_sem, r0, r1, r2, r3, r4, r5, r6, r7, r8]) rfl ⟨.inr ⟨HNo.out, rfl⟩, ?_⟩
      exact ((((((((hbw.setCell (Nat.le_refl _) _).setCell (Nat.le_refl _) _).setCell (Nat.le_refl _) _).setCell (Nat.le_refl _) _).setCell (Nat.le_refl _) _).setCell (Nat.le_refl _) _).setCell (Nat.le_refl _) _).setCell (Nat.le_refl _) _).setCell (Nat.le_refl _) _
end Go.Proofs.Qxb6000028a
