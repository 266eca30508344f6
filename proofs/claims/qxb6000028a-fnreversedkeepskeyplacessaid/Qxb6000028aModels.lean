import Derived.Test.Qxb6000028aProg
import Derived.WalkKit
import Derived.WalkSpells
import Derived.WalkLawsBesides
namespace Go.Proofs.Qxb6000028a
open Go.RowKit

def zeroModel (s : ByteArray) : Obj := .cells #[.string s, .string { data := #[] }, .string { data := #[] }, .string { data := #[] }, .slice none 0 0, .string { data := #[] }, .slice none 0 0, .slice none 0 0] 54
/-- Three new models. -/
def models (w : World) : World := ((w.alloc (zeroModel { data := #[115, 114, 99] })).alloc (zeroModel { data := #[116, 103, 116] })).alloc (zeroModel { data := #[99, 114, 111, 115, 115] })
def tgtOf (n : Nat) (self : Bool) : Nat := if self then n else n + 1
def kinOf (n : Nat) (keysIn : Int) (self : Bool) : Option Addr := if keysIn = 1 then some ⟨n, 0, none⟩ else if keysIn = 2 then some ⟨tgtOf n self, 0, none⟩ else if keysIn = 3 then some ⟨n + 2, 0, none⟩ else none

theorem kin_1 {n : Nat} {k : Int} {self : Bool} (h : (k == 1) = true) : kinOf n k self = some ⟨n, 0, none⟩ := by
  have e : k = 1 := by simpa using h
  simp [kinOf, e]
theorem kin_2 {n : Nat} {k : Int} {self : Bool} (h : (k == 2) = true) : kinOf n k self = some ⟨tgtOf n self, 0, none⟩ := by
  have e : k = 2 := by simpa using h
  simp [kinOf, e]
theorem kin_3 {n : Nat} {k : Int} {self : Bool} (h : (k == 3) = true) : kinOf n k self = some ⟨n + 2, 0, none⟩ := by
  have e : k = 3 := by simpa using h
  simp [kinOf, e]
theorem kin_no {n : Nat} {k : Int} {self : Bool} (h : (k == 1) = false) (h' : (k == 2) = false) (h'' : (k == 3) = false) : kinOf n k self = none := by
  have e : ¬ k = 1 := by simpa using h
  have e' : ¬ k = 2 := by simpa using h'
  have e'' : ¬ k = 3 := by simpa using h''
  simp [kinOf, e, e', e'']

set_option maxHeartbeats 400000 in
theorem models_any (keysIn : Int) (self : Bool) (w : World) : Calls Try.prog 9 #[.int .i64 keysIn, .bool self] w fun e w' =>
    e = .returned (.tuple #[.pointer (some ⟨w.heap.size, 0, none⟩), .pointer (some ⟨tgtOf w.heap.size self, 0, none⟩), .pointer (kinOf w.heap.size keysIn self)]) ∧ models w = w' := by
  cases self
  all_goals
    go_enter Try.func9, Try.ntmps9
    go_wp2
    all_goals
      go_ret3
      refine ⟨?_, rfl⟩
      first
        | rw [kin_1 (by assumption)]; rfl
        | rw [kin_2 (by assumption)]; rfl
        | rw [kin_3 (by assumption)]; rfl
        | rw [kin_no (by assumption) (by assumption) (by assumption)]; rfl
end Go.Proofs.Qxb6000028a
