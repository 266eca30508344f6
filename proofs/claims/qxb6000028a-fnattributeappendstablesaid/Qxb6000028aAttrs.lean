import Derived.Test.Qxb6000028aCopy
import Derived.Deep.RegionHeld
namespace Go.Proofs.Qxb6000028a
open Go.RowKit

theorem Try.info46 : (Try.prog.info? 46).map (fun i => (i.zero, i.size, i.bytes)) = some (some (.agg #[.string { data := #[] }, .int .i64 0, .bool false, .string { data := #[] }, .bool false, .pointer none, .bool false, .string { data := #[] }, .string { data := #[] }]), 9, 104) := by kernel_rfl

/-- What a round's statement looks at: the name; the nine cells that are written. -/
def Nine (w : World) (gn g k : Nat) (s : ByteArray) : Prop :=
  w.cell? ⟨gn, k, none⟩ = some (.string s) ∧ w.cell? ⟨g, k * 9, none⟩ = some (.string { data := #[] }) ∧ w.cell? ⟨g, k * 9 + 1, none⟩ = some (.int .i64 0) ∧ w.cell? ⟨g, k * 9 + 2, none⟩ = some (.bool false) ∧ w.cell? ⟨g, k * 9 + 3, none⟩ = some (.string { data := #[] }) ∧ w.cell? ⟨g, k * 9 + 4, none⟩ = some (.bool false) ∧ w.cell? ⟨g, k * 9 + 5, none⟩ = some (.pointer none) ∧ w.cell? ⟨g, k * 9 + 6, none⟩ = some (.bool false) ∧ w.cell? ⟨g, k * 9 + 7, none⟩ = some (.string { data := #[] }) ∧ w.cell? ⟨g, k * 9 + 8, none⟩ = some (.string { data := #[] })

theorem Nine.later {w w' : World} {gn g k : Nat} {s : ByteArray} (h : Nine w gn g k s) (hb : Below w.heap.size w w') : Nine w' gn g k s := by
  obtain ⟨h0, h1, h2, h3, h4, h5, h6, h7, h8, h9⟩ := h
  have e : ∀ (a : Addr) (v : Value), w.cell? a = some v → w'.cell? a = some v := fun a v ha => (hb.cell (block_lt_of_cell ha)).trans ha
  exact ⟨e _ _ h0, e _ _ h1, e _ _ h2, e _ _ h3, e _ _ h4, e _ _ h5, e _ _ h6, e _ _ h7, e _ _ h8, e _ _ h9⟩

theorem ownsRow_later {w w' : World} {base : Nat} {e : TypeId} {size : Nat} {v : Value} {n : Nat} {xs : List Value} (h : w.ownsRow base e size v n xs) (hb : Below w.heap.size w w') : w'.ownsRow base e size v n xs := by
  obtain ⟨h1, h2⟩ := h
  refine ⟨h1, ?_⟩
  rcases h2 with h2 | ⟨g, cap, cur, hv, hg, hh, r⟩
  · exact Or.inl h2
  · have hl : g < w.heap.size := (Array.getElem?_eq_some_iff.1 hh).1
    exact Or.inr ⟨g, cap, cur, hv, hg, by rw [hb.block g hl]; exact hh, r⟩

theorem wrap_small (x : Int) (h0 : 0 ≤ x) (h1 : x ≤ 100) : IntKind.i64.wrap x = x := by
  simp [IntKind.wrap, IntKind.bits, IntKind.signed]
  split <;> omega

/-- Nine cells stored into an owned row. -/
theorem store9 {w : World} {base g n cap : Nat} {xs : List Value} (h : w.ownsRow base 46 9 (.slice (some ⟨g, 0, none⟩) n cap) n xs) (p : Nat) (v0 v1 v2 v3 v4 v5 v6 v7 v8 : Value) :
    (((((((((w.setCell ⟨g, p, none⟩ v0).setCell ⟨g, p + 1, none⟩ v1).setCell ⟨g, p + 2, none⟩ v2).setCell ⟨g, p + 3, none⟩ v3).setCell ⟨g, p + 4, none⟩ v4).setCell ⟨g, p + 5, none⟩ v5).setCell ⟨g, p + 6, none⟩ v6).setCell ⟨g, p + 7, none⟩ v7).setCell ⟨g, p + 8, none⟩ v8).ownsRow base 46 9 (.slice (some ⟨g, 0, none⟩) n cap) n
      (((((((((xs.set p v0).set (p + 1) v1).set (p + 2) v2).set (p + 3) v3).set (p + 4) v4).set (p + 5) v5).set (p + 6) v6).set (p + 7) v7).set (p + 8) v8) :=
  ((((((((((h.stored p v0).1.stored (p + 1) v1).1).stored (p + 2) v2).1.stored (p + 3) v3).1.stored (p + 4) v4).1.stored (p + 5) v5).1.stored (p + 6) v6).1.stored (p + 7) v7).1.stored (p + 8) v8).1

theorem round_own {wr w1 : World} {B n k : Nat} {ss : List ByteArray} {s : ByteArray} (hlt : k < n) (hsv : ss.getD k ByteArray.empty = s) (hown : wr.ownsRow B 46 9 (.slice (some ⟨B, 0, none⟩) n n) n (cellsA ss n k)) (hb : Below wr.heap.size wr w1) :
    (((((((((w1.setCell ⟨B, k * 9, none⟩ (.string s)).setCell ⟨B, k * 9 + 1, none⟩ (.int .i64 ((k : Int) % 7 + 1))).setCell ⟨B, k * 9 + 2, none⟩ (.bool ((k : Int) % 2 == 1))).setCell ⟨B, k * 9 + 3, none⟩ (.string (itoa k))).setCell ⟨B, k * 9 + 4, none⟩ (.bool false)).setCell ⟨B, k * 9 + 5, none⟩ (.pointer none)).setCell ⟨B, k * 9 + 6, none⟩ (.bool false)).setCell ⟨B, k * 9 + 7, none⟩ (.string { data := #[] })).setCell ⟨B, k * 9 + 8, none⟩ (.string { data := #[] })).ownsRow B 46 9 (.slice (some ⟨B, 0, none⟩) n n) n (cellsA ss n (k + 1)) := by
  have h := store9 (ownsRow_later hown hb) (k * 9) (.string s) (.int .i64 ((k : Int) % 7 + 1)) (.bool ((k : Int) % 2 == 1)) (.string (itoa k)) (.bool false) (.pointer none) (.bool false) (.string { data := #[] }) (.string { data := #[] })
  rw [← cellsA_set ss n k hlt (.string s) (.int .i64 ((k : Int) % 7 + 1)) (.bool ((k : Int) % 2 == 1)) (.string (itoa k)) (.bool false) (.pointer none) (.bool false) (.string { data := #[] }) (.string { data := #[] }) (by rw [hsv]; rfl), Nat.mul_comm 9 k]
  exact h

set_option maxHeartbeats 1000000 in
theorem attrModel_any (ao : Option Addr) (gn n : Nat) (ss : List ByteArray) (w : World) (hn : n ≤ 65536) (hss : ss.length = n) (hao : 0 < n → ao = some ⟨gn, 0, none⟩ ∧ gn < w.heap.size) (hc : ∀ j, j < n → w.cell? ⟨gn, j, none⟩ = some (.string (ss.getD j ByteArray.empty))) :
    Calls Try.prog 17 #[.slice ao n n] w fun e w' => ∃ M, e = .returned (.pointer (some ⟨M, 0, none⟩)) ∧ w'.cell? ⟨M, 4, none⟩ = some (.slice (some ⟨w.heap.size, 0, none⟩) n n) ∧ w'.frozen? ⟨M, 4, none⟩ = false ∧ w.heap.size < M ∧
      w'.ownsRow w.heap.size 46 9 (.slice (some ⟨w.heap.size, 0, none⟩) n n) n (cellsA ss n n) ∧ Below w.heap.size w w' := by
  obtain ⟨i0, hi, hz0, hz1, hz2⟩ := info_parts Try.info46
  go_enter Try.func17, Try.ntmps17
  go_wp2_with (at_make; refine wpList_make_full _ rfl _ _ 51 rfl w.heap.size 46 i0 (.agg #[.string { data := #[] }, .int .i64 0, .bool false, .string { data := #[] }, .bool false, .pointer none, .bool false, .string { data := #[] }, .string { data := #[] }]) 9 Try.underlying51 hi hz0 hz1 _ _ _ _ n rfl rfl rfl rfl ?b2 ?b3 (Nat.le_refl _) ?_)
  case b2 => rw [hz2]; omega
  case b3 => unfold maxLen; omega
  intro w0 hown0 hgrow0
  have hown1 : w0.ownsRow w.heap.size 46 9 (.slice (some ⟨w.heap.size, 0, none⟩) n n) n (cellsA ss n 0) := by
    rw [← cellsA_made]; simpa [Value.cells] using hown0
  clear hown0
  go_wp2
  go_loopw [4] (fun i wr => ∃ k : Nat, k ≤ n ∧ i = .int .i64 k ∧ wr.ownsRow w.heap.size 46 9 (.slice (some ⟨w.heap.size, 0, none⟩) n n) n (cellsA ss n k) ∧ Below w.heap.size w wr) (fun i _ => n - (intOf i).toNat)
  case atStart => exact ⟨0, Nat.zero_le _, rfl, hown1, (Below.refl _ _).grown hgrow0 (Nat.le_refl _) (fun k h => by cases h)⟩
  case round =>
    obtain ⟨k, hk, rfl, hown, hbel⟩ := hrel
    clear hown1 hgrow0
    by_cases hlt : k < n
    · obtain ⟨rfl, hgn⟩ := hao (by omega)
      have hN : Nine wr gn w.heap.size k (ss.getD k ByteArray.empty) := by
        have hz : ∀ j, j < 9 → wr.cell? ⟨w.heap.size, k * 9 + j, none⟩ = zeroC[j]? := fun j hj => by
          rw [hown.cellAt _ (by omega), Nat.mul_comm k 9, cellsA_get ss n k k j hlt hj]; simp [cellF]
        exact ⟨(hbel.cell (by exact hgn)).trans (hc k hlt), hz 0 (by omega), hz 1 (by omega), hz 2 (by omega), hz 3 (by omega), hz 4 (by omega), hz 5 (by omega), hz 6 (by omega), hz 7 (by omega), hz 8 (by omega)⟩
      generalize hsv : ss.getD k ByteArray.empty = s at hN
      have HN : Hid (Nine wr gn w.heap.size k s) := hN
      obtain ⟨c0, c1, c2, c3, c4, c5, c6, c7, c8, c9⟩ := hN
      clear hc hao
      have hf : ∀ o, wr.frozen? ⟨w.heap.size, o, none⟩ = false := fun o => hown.frozenAt o
      have hBl : w.heap.size < wr.heap.size := by have := block_lt_of_cell c1; exact this
      have hne : ¬ w.heap.size = gn := by omega
      have t7 : (k : Int).tmod 7 = (k : Int) % 7 := Int.tmod_eq_emod_of_nonneg (by omega)
      have t2 : (k : Int).tmod 2 = (k : Int) % 2 := Int.tmod_eq_emod_of_nonneg (by omega)
      have tw : IntKind.i64.wrap ((k : Int) % 7 + 1) = (k : Int) % 7 + 1 := wrap_small _ (by omega) (by omega)
      go_wp2
      go_region_held (fun w' => w'.cell? ⟨gn, k, none⟩ = some (.string s)) (go_keep) ((go_at_call 19; refine (itoa_any k _ (by omega)).mono ?_; rintro e w1 ⟨rfl, hb1⟩; obtain ⟨d0, d1, d2, d3, d4, d5, d6, d7, d8, d9⟩ := HN.out.later (w' := w1) ⟨hb1.os, hb1.tape, hb1.output, hb1.size, hb1.block⟩; have hf1 : ∀ o, w1.frozen? ⟨w.heap.size, o, none⟩ = false := fun o => (hb1.frozen (p := ⟨w.heap.size, o, none⟩) hBl).trans (hf o)))
      have RO := round_own (n := n) (ss := ss) hlt hsv hown (show Below wr.heap.size wr w1 from ⟨hb1.os, hb1.tape, hb1.output, hb1.size, hb1.block⟩)
      have RB : Below w.heap.size w w1 := hbel.trans (Below.mono ⟨hb1.os, hb1.tape, hb1.output, hb1.size, hb1.block⟩ hbel.size)
      clear hb1 hf1 d0 d1 d2 d3 d4 d5 d6 d7 d8 d9 c0 c1 c2 c3 c4 c5 c6 c7 c8 c9 hf HN hown hne
      go_wp2
      go_roundw
      case rel => exact ⟨k + 1, by omega, by go_num, RO, ((((((((RB.setCell (Nat.le_refl _) _).setCell (Nat.le_refl _) _).setCell (Nat.le_refl _) _).setCell (Nat.le_refl _) _).setCell (Nat.le_refl _) _).setCell (Nat.le_refl _) _).setCell (Nat.le_refl _) _).setCell (Nat.le_refl _) _).setCell (Nat.le_refl _) _⟩
      case measure => simp [intOf]; omega
    · have hkn : k = n := by omega
      subst hkn
      clear hao hc
      have hM := (hown.lt w.heap.size rfl).2
      go_wp2
      go_ret
      exact ⟨wr.heap.size, rfl, by simp, by simp, hM, hown.alloc _, hbel.alloc hbel.size _⟩
end Go.Proofs.Qxb6000028a
