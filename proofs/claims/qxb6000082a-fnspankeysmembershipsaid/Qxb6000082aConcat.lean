import Derived.Test.Qxb6000082aReads
import Derived.Lib.AppendZerosOnto
import Derived.Lib.AppendZeros
namespace Go.Proofs.Qxb6000082a
open Go.RowKit

theorem list_one (A : List Int) : ∀ u ∈ A.map (Value.int .u8), u.oneCell' = true := ints_oneCell _ _
/-- The cells of a slice, as the laws on append ask them. -/
theorem Sl.cells {w : World} {a : Option Addr} {A : List Int} {cap : Nat} (h : Sl w a A cap) : ∀ ad, a = some ad → ∀ j u, (A.map (Value.int .u8))[j]? = some u → w.cell? (ad.add j) = some u := by
  intro ad had j u hu
  have hj : j < A.length := by simpa using (List.getElem?_eq_some_iff.1 hu).1
  rw [h.cell ad had j hj]
  rw [List.getElem?_map, List.getElem?_eq_getElem hj] at hu
  rw [List.getD_eq_getElem?_getD, List.getElem?_eq_getElem hj]
  exact hu
theorem Sl.none0 {w : World} {a : Option Addr} {A : List Int} {cap : Nat} (h : Sl w a A cap) : a = none → A.length = 0 ∧ cap = 0 := fun e => by
  have := h.nil e
  exact ⟨by rw [this.1]; rfl, this.2⟩

/-- An owned row of bytes can be read. -/
theorem Sl.own {w : World} {B g cap : Nat} {A : List Int} (h : w.ownsRow B 5 1 (.slice (some ⟨g, 0, none⟩) A.length cap) A.length (A.map (Value.int .u8))) (hb : ∀ b ∈ A, 0 ≤ b ∧ b ≤ 255) (hs : A.length ≤ 2097152) (hc : A.length ≤ cap) : Sl w (some ⟨g, 0, none⟩) A cap :=
  ⟨fun e => (by cases e), hc, fun x hx j hj => (by
    cases hx
    rw [Addr.add_lit, Nat.zero_add, h.cellAt j (by omega), List.getElem?_map, List.getD_eq_getElem?_getD, List.getElem?_eq_getElem hj]
    rfl), hb, hs⟩

set_option maxHeartbeats 1000000 in
theorem concatB_any (a b : Option Addr) (A B : List Int) (ca cb : Nat) (w : World) (ha : Sl w a A ca) (hb : Sl w b B cb) (hAB : A.length + B.length ≤ 2097152) :
    Calls Try.prog 9 #[.slice a A.length ca, .slice b B.length cb] w fun e w' => e = .returned (.slice (some ⟨w.heap.size, 0, none⟩) (A ++ B).length (A ++ B).length) ∧ Sl w' (some ⟨w.heap.size, 0, none⟩) (A ++ B) (A ++ B).length ∧ Below w.heap.size w w' := by
  obtain ⟨i0, hi, hz0, hz1, hz2⟩ := info_parts Try.info5
  go_enter Try.func9, Try.ntmps9
  go_wp2_with (at_make; refine wpList_make_own _ rfl _ _ 22 rfl w.heap.size 5 i0 (.int .u8 0) 1 Try.underlying22 hi hz0 hz1 _ _ _ (A.length + B.length) rfl rfl (by omega) ?b2 ?b3 (Nat.le_refl _) ?_)
  case b2 => rw [hz2]; omega
  case b3 => unfold maxLen; omega
  intro w1 hown1 hgrow1
  have hb1 : Below w.heap.size w w1 := (Below.refl _ _).grown hgrow1 (Nat.le_refl _) (fun k h => by cases h)
  have ha1 := ha.later hb1
  have hbb1 := hb.later hb1
  have hbB := hb.byte
  have haB := ha.byte
  go_wp2_with (first
    | (at_builtin; refine wpList_append_fits_any _ rfl (.tmp 12) (.tmp 13) 22 rfl w.heap.size 5 i0 1 Try.underlying22 hi hz1 w.heap.size 0 (A.length + B.length) [] rfl hown1 a A.length ca (A.map (Value.int .u8)) rfl (by simp) ha1.none0 ha1.cells (list_one A) (by omega) ?_; intro w2 hown2 hgrow2; simp only [Nat.zero_add, List.nil_append] at hown2; have hb2 : Below w.heap.size w w2 := hb1.grown hgrow2 hb1.size (fun k h => by cases h; exact Nat.le_refl _); have hbb2 := hb.later hb2)
    | (at_builtin; refine wpList_append_fits_any _ rfl (.tmp 15) (.tmp 16) 22 rfl w.heap.size 5 i0 1 Try.underlying22 hi hz1 w.heap.size A.length (A.length + B.length) _ rfl hown2 b B.length cb (B.map (Value.int .u8)) rfl (by simp) hbb2.none0 hbb2.cells (list_one B) (by omega) ?_; intro w3 hown3 hgrow3))
  go_ret
  have hb3 : Below w.heap.size w w3 := hb2.grown hgrow3 hb2.size (fun k h => by cases h; exact Nat.le_refl _)
  rw [← List.map_append, ← List.length_append] at hown3
  refine ⟨?_, Sl.own (B := w.heap.size) hown3 ?_ (by rw [List.length_append]; exact hAB) (Nat.le_refl _), hb3⟩
  · rw [List.length_append]; rfl
  · intro c hc
    rcases List.mem_append.1 hc with h | h
    · exact haB c h
    · exact hbB c h
end Go.Proofs.Qxb6000082a
