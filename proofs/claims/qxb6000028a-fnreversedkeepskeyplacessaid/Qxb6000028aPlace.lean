import Derived.Test.Qxb6000028aPlaces
import Derived.Deep.QuietTactic
import Derived.BigQuiet
namespace Go.Proofs.Qxb6000028a
open Go.RowKit

set_option maxHeartbeats 1000000 in
theorem place_1 {b : Nat} {s0 s6 s7 s8 : ByteArray} {p2 p3 p5 : Option Addr} {t : Int} {w : World} (h : AssocAt w b s0 t p2 p3 1 p5 s6 s7 s8) :
    Calls Try.prog 12 #[.pointer (some ⟨b, 0, none⟩)] w fun e w' => e = .returned (.tuple #[.int .i64 1, .pointer p2, .string s6, .pointer none, .string { data := #[] }]) ∧ ∃ n, w' = w.drewN n := by
  obtain ⟨c0, c1, c2, c3, c4, c5, c6, c7, c8, c9⟩ := h
  go_enter Try.func12, Try.ntmps12
  go_wp2
  go_quiet (fail)
  go_wp2
  exact bodyPost_ret (v := .tuple #[.int .i64 1, .pointer p2, .string s6, .pointer none, .string { data := #[] }]) (by simp [results, Try.results12, go_sem]) rfl ⟨rfl, nq, rfl⟩

set_option maxHeartbeats 1000000 in
theorem place_2 {b : Nat} {s0 s6 s7 s8 : ByteArray} {p2 p3 p5 : Option Addr} {t : Int} {w : World} (h : AssocAt w b s0 t p2 p3 2 p5 s6 s7 s8) :
    Calls Try.prog 12 #[.pointer (some ⟨b, 0, none⟩)] w fun e w' => e = .returned (.tuple #[.int .i64 1, .pointer p3, .string s6, .pointer none, .string { data := #[] }]) ∧ ∃ n, w' = w.drewN n := by
  obtain ⟨c0, c1, c2, c3, c4, c5, c6, c7, c8, c9⟩ := h
  go_enter Try.func12, Try.ntmps12
  go_wp2
  go_quiet (fail)
  go_wp2
  exact bodyPost_ret (v := .tuple #[.int .i64 1, .pointer p3, .string s6, .pointer none, .string { data := #[] }]) (by simp [results, Try.results12, go_sem]) rfl ⟨rfl, nq, rfl⟩

set_option maxHeartbeats 1000000 in
theorem place_3 {b : Nat} {s0 s6 s7 s8 : ByteArray} {p2 p3 p5 : Option Addr} {t : Int} {w : World} (h : AssocAt w b s0 t p2 p3 3 p5 s6 s7 s8) :
    Calls Try.prog 12 #[.pointer (some ⟨b, 0, none⟩)] w fun e w' => e = .returned (.tuple #[.int .i64 2, .pointer p5, .string s7, .pointer p5, .string s6]) ∧ ∃ n, w' = w.drewN n := by
  obtain ⟨c0, c1, c2, c3, c4, c5, c6, c7, c8, c9⟩ := h
  go_enter Try.func12, Try.ntmps12
  go_wp2
  go_quiet (fail)
  go_wp2
  exact bodyPost_ret (v := .tuple #[.int .i64 2, .pointer p5, .string s7, .pointer p5, .string s6]) (by simp [results, Try.results12, go_sem]) rfl ⟨rfl, nq, rfl⟩

set_option maxHeartbeats 1000000 in
theorem place_4 {b : Nat} {s0 s6 s7 s8 : ByteArray} {p2 p3 p5 : Option Addr} {t : Int} {w : World} (h : AssocAt w b s0 t p2 p3 4 p5 s6 s7 s8) :
    Calls Try.prog 12 #[.pointer (some ⟨b, 0, none⟩)] w fun e w' => e = .returned (.tuple #[.int .i64 2, .pointer p2, .string s7, .pointer p3, .string s6]) ∧ ∃ n, w' = w.drewN n := by
  obtain ⟨c0, c1, c2, c3, c4, c5, c6, c7, c8, c9⟩ := h
  go_enter Try.func12, Try.ntmps12
  go_wp2
  go_quiet (fail)
  go_wp2
  exact bodyPost_ret (v := .tuple #[.int .i64 2, .pointer p2, .string s7, .pointer p3, .string s6]) (by simp [results, Try.results12, go_sem]) rfl ⟨rfl, nq, rfl⟩

/-- zzBytes answers something and does nothing. -/
theorem bytes11 (s0 s1 s2 s3 s4 s5 : ByteArray) (t k i : Int) (b : Bool) (w : World) (h0 : s0.size ≤ maxLen) (h1 : s1.size ≤ maxLen) (h2 : s2.size ≤ maxLen) (h3 : s3.size ≤ maxLen) (h4 : s4.size ≤ maxLen) (h5 : s5.size ≤ maxLen) : Calls Try.prog 11 #[.string s0, .string s1, .string s2, .string s3, .string s4, .string s5, .int .i64 t, .int .i64 k, .int .i64 i, .bool b] w fun e w' => (∃ r, e = .returned (.bool r)) ∧ w = w' := by
  unfold maxLen at h0 h1 h2 h3 h4 h5
  go_enter Try.func11, Try.ntmps11
  go_wp2
  all_goals (go_ret; exact ⟨⟨_, rfl⟩, rfl⟩)

theorem AssocAt.drew {w : World} {b n : Nat} {s0 : ByteArray} {t : Int} {p2 p3 : Option Addr} {k : Int} {p5 : Option Addr} {s6 s7 s8 : ByteArray} (h : AssocAt w b s0 t p2 p3 k p5 s6 s7 s8) : AssocAt (w.drewN n) b s0 t p2 p3 k p5 s6 s7 s8 :=
  ⟨h.c0, h.c1, h.c2, h.c3, h.c4, h.c5, h.c6, h.c7, h.c8, h.blk⟩
end Go.Proofs.Qxb6000028a
