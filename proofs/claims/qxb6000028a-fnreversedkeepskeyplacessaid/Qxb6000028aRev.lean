import Derived.Test.Qxb6000028aProg
import Derived.WalkKit
import Derived.WalkSpells
import Derived.WalkLawsBesides
import Derived.Deep.RegionHeld
namespace Go.Proofs.Qxb6000028a
open Go.RowKit

/-- The type and the key holder of the reversed association. -/
def swapT (t : Int) : Int := if t = 3 then 2 else if t = 2 then 3 else t
def swapK (k : Int) : Int := if k = 1 then 2 else if k = 2 then 1 else k
def keysInR (p3 p5 : Option Addr) (k : Int) : Option Addr := if k = 4 then p3 else p5
def tkR (s6 s7 : ByteArray) (k : Int) : ByteArray := if 3 ≤ k then s7 else s6
def skR (s6 : ByteArray) (k : Int) : ByteArray := if 3 ≤ k then s6 else { data := #[] }

/-- An association's cells, the labels and the hidden names empty. -/
def assoc (s0 : ByteArray) (t : Int) (p2 p3 : Option Addr) (k : Int) (p5 : Option Addr) (s6 s7 s8 : ByteArray) : Obj :=
  .cells #[.string s0, .int .i64 t, .pointer p2, .pointer p3, .int .i64 k, .pointer p5, .string s6, .string s7, .string s8, .string { data := #[] }, .string { data := #[] }, .string { data := #[] }, .string { data := #[] }, .string { data := #[] }] 30

/-- What the reversed one holds. -/
def revOf (s0 s6 s7 s8 : ByteArray) (p2 p3 p5 : Option Addr) (t k : Int) : Obj := assoc s8 (swapT t) p3 p2 (swapK k) (keysInR p3 p5 k) (tkR s6 s7 k) (skR s6 k) s0

theorem eq_of_beq {a b : Int} (h : (a == b) = true) : a = b := by simpa using h
theorem ne_of_beq {a b : Int} (h : (a == b) = false) : ¬ a = b := by simpa using h

theorem swapT_3 {t : Int} (h : (t == 3) = true) : swapT t = 2 := by simp [swapT, eq_of_beq h]
theorem swapT_2 {t : Int} (h : (t == 2) = true) : swapT t = 3 := by simp [swapT, eq_of_beq h]
theorem swapT_no {t : Int} (h : (t == 3) = false) (h' : (t == 2) = false) : swapT t = t := by simp [swapT, ne_of_beq h, ne_of_beq h']
theorem rev_1 (s0 s6 s7 s8 : ByteArray) (p2 p3 p5 : Option Addr) (t k T : Int) (hT : swapT t = T) (h : (k == 1) = true) : revOf s0 s6 s7 s8 p2 p3 p5 t k = assoc s8 T p3 p2 2 p5 s6 { data := #[] } s0 := by
  obtain rfl := eq_of_beq h; simp [revOf, hT, swapK, keysInR, tkR, skR]
theorem rev_2 (s0 s6 s7 s8 : ByteArray) (p2 p3 p5 : Option Addr) (t k T : Int) (hT : swapT t = T) (h : (k == 2) = true) : revOf s0 s6 s7 s8 p2 p3 p5 t k = assoc s8 T p3 p2 1 p5 s6 { data := #[] } s0 := by
  obtain rfl := eq_of_beq h; simp [revOf, hT, swapK, keysInR, tkR, skR]
theorem rev_3 (s0 s6 s7 s8 : ByteArray) (p2 p3 p5 : Option Addr) (t k T : Int) (hT : swapT t = T) (h : (k == 3) = true) : revOf s0 s6 s7 s8 p2 p3 p5 t k = assoc s8 T p3 p2 k p5 s7 s6 s0 := by
  obtain rfl := eq_of_beq h; simp [revOf, hT, swapK, keysInR, tkR, skR]
theorem rev_4 (s0 s6 s7 s8 : ByteArray) (p2 p3 p5 : Option Addr) (t k T : Int) (hT : swapT t = T) (h : (k == 4) = true) : revOf s0 s6 s7 s8 p2 p3 p5 t k = assoc s8 T p3 p2 k p3 s7 s6 s0 := by
  obtain rfl := eq_of_beq h; simp [revOf, hT, swapK, keysInR, tkR, skR]

set_option maxHeartbeats 2000000 in
theorem reversed_any (b : Nat) (s0 s6 s7 s8 : ByteArray) (p2 p3 p5 : Option Addr) (t k : Int) (w : World) (hk1 : 1 ≤ k) (hk4 : k ≤ 4) (hb : b < w.heap.size)
    (h0 : w.cell? ⟨b, 0, none⟩ = some (.string s0)) (h1 : w.cell? ⟨b, 1, none⟩ = some (.int .i64 t)) (h2 : w.cell? ⟨b, 2, none⟩ = some (.pointer p2)) (h3 : w.cell? ⟨b, 3, none⟩ = some (.pointer p3)) (h4 : w.cell? ⟨b, 4, none⟩ = some (.int .i64 k)) (h5 : w.cell? ⟨b, 5, none⟩ = some (.pointer p5)) (h6 : w.cell? ⟨b, 6, none⟩ = some (.string s6)) (h7 : w.cell? ⟨b, 7, none⟩ = some (.string s7)) (h8 : w.cell? ⟨b, 8, none⟩ = some (.string s8)) :
    Calls Try.prog 10 #[.pointer (some ⟨b, 0, none⟩)] w fun e w' => e = .returned (.pointer (some ⟨w.heap.size, 0, none⟩)) ∧ ∃ n, w' = (w.alloc (revOf s0 s6 s7 s8 p2 p3 p5 t k)).drewN n := by
  go_enter Try.func10, Try.ntmps10
  go_wp2
  go_region_held (fun w' => w'.cell? ⟨b, 0, none⟩ = some (.string s0) ∧ w'.cell? ⟨b, 1, none⟩ = some (.int .i64 t) ∧ w'.cell? ⟨b, 2, none⟩ = some (.pointer p2) ∧ w'.cell? ⟨b, 3, none⟩ = some (.pointer p3) ∧ w'.cell? ⟨b, 4, none⟩ = some (.int .i64 k) ∧ w'.cell? ⟨b, 5, none⟩ = some (.pointer p5) ∧ w'.cell? ⟨b, 6, none⟩ = some (.string s6) ∧ w'.cell? ⟨b, 8, none⟩ = some (.string s8)) (go_keep) (fail)
  go_wp2
  all_goals first
    | (have hk : (k == 1) = true := by assumption
       go_ret
       refine ⟨rfl, 1, ?_⟩
       first
         | rw [rev_1 s0 s6 s7 s8 p2 p3 p5 t k 2 (swapT_3 (by assumption)) hk]; rfl
         | rw [rev_1 s0 s6 s7 s8 p2 p3 p5 t k 3 (swapT_2 (by assumption)) hk]; rfl
         | rw [rev_1 s0 s6 s7 s8 p2 p3 p5 t k t (swapT_no (by assumption) (by assumption)) hk]; rfl)
    | (have hk : (k == 2) = true := by assumption
       go_ret
       refine ⟨rfl, 1, ?_⟩
       first
         | rw [rev_2 s0 s6 s7 s8 p2 p3 p5 t k 2 (swapT_3 (by assumption)) hk]; rfl
         | rw [rev_2 s0 s6 s7 s8 p2 p3 p5 t k 3 (swapT_2 (by assumption)) hk]; rfl
         | rw [rev_2 s0 s6 s7 s8 p2 p3 p5 t k t (swapT_no (by assumption) (by assumption)) hk]; rfl)
    | (have hk : (k == 3) = true := by assumption
       go_region_held (fun w' => w'.cell? ⟨b, 6, none⟩ = some (.string s6) ∧ w'.cell? ⟨b, 7, none⟩ = some (.string s7)) (go_keep) (fail)
       all_goals
         go_wp2
         go_ret
         refine ⟨rfl, 2, ?_⟩
         first
           | rw [rev_3 s0 s6 s7 s8 p2 p3 p5 t k 2 (swapT_3 (by assumption)) hk]; rfl
           | rw [rev_3 s0 s6 s7 s8 p2 p3 p5 t k 3 (swapT_2 (by assumption)) hk]; rfl
           | rw [rev_3 s0 s6 s7 s8 p2 p3 p5 t k t (swapT_no (by assumption) (by assumption)) hk]; rfl)
    | (have hk : (k == 4) = true := by assumption
       go_region_held (fun w' => w'.cell? ⟨b, 3, none⟩ = some (.pointer p3) ∧ w'.cell? ⟨b, 6, none⟩ = some (.string s6) ∧ w'.cell? ⟨b, 7, none⟩ = some (.string s7)) (go_keep) (fail)
       all_goals
         go_wp2
         go_ret
         refine ⟨rfl, 2, ?_⟩
         first
           | rw [rev_4 s0 s6 s7 s8 p2 p3 p5 t k 2 (swapT_3 (by assumption)) hk]; rfl
           | rw [rev_4 s0 s6 s7 s8 p2 p3 p5 t k 3 (swapT_2 (by assumption)) hk]; rfl
           | rw [rev_4 s0 s6 s7 s8 p2 p3 p5 t k t (swapT_no (by assumption) (by assumption)) hk]; rfl)
end Go.Proofs.Qxb6000028a
