import Derived.Test.Qxb6000028aAttrs
import Derived.Test.Qxb6000028aAbove
namespace Go.Proofs.Qxb6000028a
open Go.RowKit

/-- What is known of the names that came in. -/
structure Names (w : World) (a : Option Addr) (len cap : Nat) (ss : List ByteArray) : Prop where
  nil : a = none → len = 0 ∧ cap = 0
  length : ss.length = len
  max : len ≤ maxLen
  cell : ∀ x, a = some x → ∀ j, j < len → w.cell? (x.add j) = some (.string (ss.getD j ByteArray.empty))
  sized : ∀ s ∈ ss, s.size ≤ maxLen

theorem Names.pos {w : World} {a : Option Addr} {len cap : Nat} {ss : List ByteArray} (h : Names w a len cap ss) (h0 : 0 < len) : ∃ b off, a = some ⟨b, off, none⟩ ∧ (∀ j, j < len → w.cell? ⟨b, off + j, none⟩ = some (.string (ss.getD j ByteArray.empty))) := by
  cases a with
  | none => have := (h.nil rfl).1; omega
  | some x =>
    obtain ⟨b, off, sp⟩ := x
    have hsp : sp = none := by simpa [Addr.add] using World.cell?_spot (h.cell _ rfl 0 h0)
    subst hsp
    exact ⟨b, off, rfl, fun j hj => by have := h.cell _ rfl j hj; rwa [Addr.add_lit] at this⟩

/-- Some bool comes back. -/
def SomeBool (e : Ending) : Prop := ∃ r, e = .returned (.bool r)

set_option maxHeartbeats 1000000 in
theorem bytes15 (a : Option Addr) (len cap : Nat) (ss : List ByteArray) (q : ByteArray) (w : World) (h : Names w a len cap ss) (_hq : q.size ≤ maxLen) :
    Calls Try.prog 15 #[.slice a len cap, .string q] w fun e w' => SomeBool e ∧ w = w' := by
  have hp := h.pos
  have hm := h.max
  unfold maxLen at hm
  clear h
  go_enter Try.func15, Try.ntmps15
  go_wp2
  all_goals first | (go_ret; exact ⟨⟨_, rfl⟩, rfl⟩) | skip
  go_loop [5, 6] (fun t i => ∃ (T : Int) (k : Nat), k ≤ len ∧ t = .int .i64 T ∧ i = .int .i64 k) (fun _ i => len - (intOf i).toNat)
  case atStart => exact ⟨_, 0, by omega, rfl, rfl⟩
  case round =>
    obtain ⟨T, k, hk, rfl, rfl⟩ := hrel
    by_cases hlt : k < len
    · obtain ⟨b, off, rfl, hc⟩ := hp (by omega)
      have hcell := hc k hlt
      clear hc hp
      go_wp2
      all_goals first
        | (go_round
           case rel => exact ⟨_, k + 1, by omega, rfl, by go_num⟩
           case measure => simp [intOf]; omega)
        | (go_ret; exact ⟨⟨_, rfl⟩, rfl⟩)
    · clear hp
      go_wp2
      all_goals (go_ret; exact ⟨⟨_, rfl⟩, rfl⟩)

def avAt (ss : List ByteArray) (i : Nat) : AV := ⟨ss.getD i ByteArray.empty, (i : Int) % 7 + 1, (i : Int) % 2 == 1, itoa i, false, { data := #[] }⟩
def hitB (ss : List ByteArray) (q : ByteArray) (i : Nat) : Bool := (ss.getD i ByteArray.empty).toList == q.toList
/-- The least index from k on with the asked name, or -1. -/
def Best (ss : List ByteArray) (q : ByteArray) (len : Nat) (B : Int) (k : Nat) : Prop :=
  (B = -1 ∧ ∀ j, k ≤ j → j < len → hitB ss q j = false) ∨ (∃ b : Nat, k ≤ b ∧ b < len ∧ B = b ∧ hitB ss q b = true ∧ ∀ j, k ≤ j → j < b → hitB ss q j = false)
theorem Best.hit {ss : List ByteArray} {q : ByteArray} {len k : Nat} (hk : k < len) (h : hitB ss q k = true) : Best ss q len k k := .inr ⟨k, Nat.le_refl _, hk, rfl, h, fun j h1 h2 => by omega⟩
theorem Best.miss {ss : List ByteArray} {q : ByteArray} {len k : Nat} {B : Int} (h : hitB ss q k = false) (hb : Best ss q len B (k + 1)) : Best ss q len B k := by
  have st : ∀ j, k ≤ j → (k + 1 ≤ j → hitB ss q j = false) → hitB ss q j = false := fun j h1 h2 => by
    by_cases e : j = k
    · rw [e]; exact h
    · exact h2 (by omega)
  rcases hb with ⟨h1, h2⟩ | ⟨b, h1, h2, h3, h4, h5⟩
  · exact .inl ⟨h1, fun j hj hl => st j hj (fun h => h2 j h hl)⟩
  · exact .inr ⟨b, by omega, h2, h3, h4, fun j hj hl => st j hj (fun h => h5 j h hl)⟩
theorem Best.bd {ss : List ByteArray} {q : ByteArray} {len k : Nat} {B : Int} (hb : Best ss q len B k) : -1 ≤ B ∧ B < len := by
  rcases hb with ⟨h1, _⟩ | ⟨b, _, h2, h3, _⟩ <;> omega

theorem above_some (w : World) : Nonempty (Above w) := ⟨⟨w, Below.refl _ _⟩⟩
theorem quiet_itoa {w : World} (b : Nat) (hb : b ≤ 1048576) (k : Above w) : Calls Try.prog 19 #[.int .i64 b] k.val fun e w'' => e = .returned (.string (itoa b)) ∧ ∃ k' : Above w, w'' = k'.val := by
  refine (itoa_any b k.val hb).mono ?_
  rintro e w'' ⟨rfl, h⟩
  exact ⟨rfl, ⟨w'', k.below.trans (h.mono k.below.size)⟩, rfl⟩

set_option maxHeartbeats 2000000 in
theorem first_in (a : Option Addr) (len cap : Nat) (ss : List ByteArray) (q : ByteArray) (w : World) (h : Names w a len cap ss) (hq : q.size ≤ maxLen) :
    Calls Try.prog 6 #[.slice a len cap, .string q] w fun e w' => e = .returned (.bool true) ∧ Below w.heap.size w w' := by
  have Z := bytes15 a len cap ss q w h hq
  have hp := h.pos
  have hm := h.max
  have HN : Hid (Names w a len cap ss) := h
  unfold maxLen at hm hq
  clear h
  go_enter Try.func6, Try.ntmps6
  go_wp2_with (go_at_call 15; refine Z.mono ?_; rintro e w' ⟨⟨r, rfl⟩, rfl⟩)
  all_goals first | (go_ret; exact ⟨rfl, Below.refl _ _⟩) | skip
  clear Z
  go_loop [5, 6] (fun t i => ∃ (T : Int) (k : Nat), k ≤ len ∧ t = .int .i64 T ∧ i = .int .i64 k) (fun _ i => len - (intOf i).toNat)
  case atStart => exact ⟨_, 0, by omega, rfl, rfl⟩
  case round =>
    obtain ⟨T, k, hk, rfl, rfl⟩ := hrel
    by_cases hlt : k < len
    · obtain ⟨b, off, rfl, hc⟩ := hp (by omega)
      have hcell := hc k hlt
      clear hc hp
      go_wp2
      all_goals first
        | (go_round
           case rel => exact ⟨_, k + 1, by omega, rfl, by go_num⟩
           case measure => simp [intOf]; omega)
        | (go_ret; exact ⟨rfl, Below.refl _ _⟩)
    · have hkl : k = len := by omega
      subst hkl
      have hl16 : k ≤ 65536 := by omega
      have N := HN.out
      have hnil := N.nil
      have hlen := N.length
      have C := copy_gen a k cap ss w N.nil (by rw [N.length]; exact Nat.le_refl _) hl16 N.cell
      clear hp hlt N
      go_wp2_with fail
      refine C.mono ?_
      rintro e w1 ⟨ao, rfl, hao, hcz, hb1⟩
      have A := attrModel_any ao w.heap.size k ss w1 hl16 hlen hao hcz
      clear C
      go_wp2_with fail
      refine A.mono ?_
      rintro e w2 ⟨M, rfl, hM4, hMf, hMl, hown, hb2⟩
      clear A
      have hc2 : ∀ j, j < k → w2.cell? ⟨w.heap.size, j, none⟩ = some (.string (ss.getD j ByteArray.empty)) := fun j hj => (hb2.cell (p := ⟨w.heap.size, j, none⟩) (hao (by omega)).2).trans (hcz j hj)
      have hbw : Below w.heap.size w w2 := hb1.trans (hb2.mono hb1.size)
      have hGl : w1.heap.size < w2.heap.size := (hown.lt w1.heap.size rfl).2
      have hav : ∀ i, i < k → ∀ j, j < 9 → w2.cell? ⟨w1.heap.size, i * 9 + j, none⟩ = (avAt ss i).cells[j]? := fun i hi j hj => by
        rw [hown.cellAt _ (by omega), Nat.mul_comm i 9, cellsA_get ss k k i j hi hj]
        unfold cellF
        rw [if_pos hi]
        rfl
      have F := find_any M w1.heap.size k k (avAt ss) q w2 (by omega) hGl hM4 hav
      clear hb1 hb2 hcz hown hM4 hMf hMl hav hGl
      go_wp2
      go_loop [8, 9] (fun b i => ∃ (B : Int) (m : Nat), m ≤ k ∧ b = .int .i64 B ∧ i = .int .i64 ((m : Int) - 1) ∧ Best ss q k B m) (fun _ i => (intOf i + 1).toNat)
      case atStart => exact ⟨-1, k, by omega, rfl, rfl, .inl ⟨rfl, fun j h1 h2 => by omega⟩⟩
      case round =>
        obtain ⟨B, m, hmk, rfl, rfl, hB⟩ := hrel
        have HB : Hid (Best ss q k B m) := hB
        have hBd := hB.bd
        clear hB
        by_cases hm0 : m = 0
        · subst hm0
          rcases HB.out with ⟨rfl, hno⟩ | ⟨b, _, hbk, rfl, hhit, hno⟩
          · have F1 : Calls Try.prog 18 #[.pointer (some ⟨M, 0, none⟩), .string q] w2 fun e w' => e = .returned (.tuple #[AV.zero.agg, .bool false]) ∧ Below w2.heap.size w2 w' := by
              refine F.mono ?_
              rintro e w' ⟨h1 | h1, h2⟩
              · obtain ⟨j, hj, ht, _⟩ := h1
                have := hno j (Nat.zero_le _) hj
                rw [show ((avAt ss j).name.toList == q.toList) = hitB ss q j from rfl, this] at ht
                exact absurd ht (by simp)
              · exact ⟨h1.2, h2⟩
            clear F HB hno hc2 hao
            unfold AV.agg AV.zero at F1
            simp only at F1
            go_wp2_with fail
            refine F1.mono ?_
            rintro e w3 ⟨rfl, hb3⟩
            have hpn := pn23
            go_wp2
            go_ret
            have hb4 := hbw.trans (hb3.mono hbw.size)
            exact ⟨rfl, (hb4.alloc hb4.size _).alloc (Nat.le_trans hb4.size (by simp)) _⟩
          · have F1 : Calls Try.prog 18 #[.pointer (some ⟨M, 0, none⟩), .string q] w2 fun e w' => e = .returned (.tuple #[(avAt ss b).agg, .bool true]) ∧ Below w2.heap.size w2 w' := by
              refine F.mono ?_
              rintro e w' ⟨h1 | h1, h2⟩
              · obtain ⟨j, hj, ht, hlow, rfl⟩ := h1
                have e1 : j = b := by
                  by_cases hjb : j < b
                  · have := hno j (Nat.zero_le _) hjb
                    rw [show ((avAt ss j).name.toList == q.toList) = hitB ss q j from rfl, this] at ht
                    exact absurd ht (by simp)
                  · by_cases hbj : b < j
                    · have := hlow b hbj
                      rw [show ((avAt ss b).name.toList == q.toList) = hitB ss q b from rfl, hhit] at this
                      exact absurd this (by simp)
                    · omega
                subst e1
                exact ⟨rfl, h2⟩
              · have := h1.1 b hbk
                rw [show ((avAt ss b).name.toList == q.toList) = hitB ss q b from rfl, hhit] at this
                exact absurd this (by simp)
            clear F HB hno hc2 hao
            unfold AV.agg avAt at F1
            simp only at F1
            generalize hnv : ss.getD b ByteArray.empty = nm at F1
            have hnq : (nm.toList == q.toList) = true := by rw [← hnv]; exact hhit
            clear hnv hhit
            go_wp2_with fail
            refine F1.mono ?_
            rintro e w3 ⟨rfl, hb3⟩
            go_wp2_with fail
            have hbx : Below w.heap.size w (w3.alloc (.cells #[.string nm, .int .i64 ((b : Int) % 7 + 1), .bool ((b : Int) % 2 == 1), .string (itoa b), .bool false, .pointer none, .bool false, .string { data := #[] }, .string { data := #[] }] 46)) := (hbw.trans (hb3.mono hbw.size)).alloc (Nat.le_trans hbw.size hb3.size) _
            have k0 := above_cell (w := w3.alloc (.cells #[.string nm, .int .i64 ((b : Int) % 7 + 1), .bool ((b : Int) % 2 == 1), .string (itoa b), .bool false, .pointer none, .bool false, .string { data := #[] }, .string { data := #[] }] 46)) (a := ⟨w3.heap.size, 0, none⟩) (v := .string nm) (by simp)
            have k1 := above_cell (w := w3.alloc (.cells #[.string nm, .int .i64 ((b : Int) % 7 + 1), .bool ((b : Int) % 2 == 1), .string (itoa b), .bool false, .pointer none, .bool false, .string { data := #[] }, .string { data := #[] }] 46)) (a := ⟨w3.heap.size, 1, none⟩) (v := .int .i64 ((b : Int) % 7 + 1)) (by simp)
            have k2 := above_cell (w := w3.alloc (.cells #[.string nm, .int .i64 ((b : Int) % 7 + 1), .bool ((b : Int) % 2 == 1), .string (itoa b), .bool false, .pointer none, .bool false, .string { data := #[] }, .string { data := #[] }] 46)) (a := ⟨w3.heap.size, 2, none⟩) (v := .bool ((b : Int) % 2 == 1)) (by simp)
            have k3 := above_cell (w := w3.alloc (.cells #[.string nm, .int .i64 ((b : Int) % 7 + 1), .bool ((b : Int) % 2 == 1), .string (itoa b), .bool false, .pointer none, .bool false, .string { data := #[] }, .string { data := #[] }] 46)) (a := ⟨w3.heap.size, 3, none⟩) (v := .string (itoa b)) (by simp)
            have k4 := above_cell (w := w3.alloc (.cells #[.string nm, .int .i64 ((b : Int) % 7 + 1), .bool ((b : Int) % 2 == 1), .string (itoa b), .bool false, .pointer none, .bool false, .string { data := #[] }, .string { data := #[] }] 46)) (a := ⟨w3.heap.size, 4, none⟩) (v := .bool false) (by simp)
            have k5 := above_cell (w := w3.alloc (.cells #[.string nm, .int .i64 ((b : Int) % 7 + 1), .bool ((b : Int) % 2 == 1), .string (itoa b), .bool false, .pointer none, .bool false, .string { data := #[] }, .string { data := #[] }] 46)) (a := ⟨w3.heap.size, 5, none⟩) (v := .pointer none) (by simp)
            have k6 := above_cell (w := w3.alloc (.cells #[.string nm, .int .i64 ((b : Int) % 7 + 1), .bool ((b : Int) % 2 == 1), .string (itoa b), .bool false, .pointer none, .bool false, .string { data := #[] }, .string { data := #[] }] 46)) (a := ⟨w3.heap.size, 6, none⟩) (v := .bool false) (by simp)
            have k7 := above_cell (w := w3.alloc (.cells #[.string nm, .int .i64 ((b : Int) % 7 + 1), .bool ((b : Int) % 2 == 1), .string (itoa b), .bool false, .pointer none, .bool false, .string { data := #[] }, .string { data := #[] }] 46)) (a := ⟨w3.heap.size, 7, none⟩) (v := .string { data := #[] }) (by simp)
            have k8 := above_cell (w := w3.alloc (.cells #[.string nm, .int .i64 ((b : Int) % 7 + 1), .bool ((b : Int) % 2 == 1), .string (itoa b), .bool false, .pointer none, .bool false, .string { data := #[] }, .string { data := #[] }] 46)) (a := ⟨w3.heap.size, 8, none⟩) (v := .string { data := #[] }) (by simp)
            have t7 : (b : Int).tmod 7 = (b : Int) % 7 := Int.tmod_eq_emod_of_nonneg (by omega)
            have t2 : (b : Int).tmod 2 = (b : Int) % 2 := Int.tmod_eq_emod_of_nonneg (by omega)
            have tw : IntKind.i64.wrap ((b : Int) % 7 + 1) = (b : Int) % 7 + 1 := wrap_small _ (by omega) (by omega)
            clear F1 hb3 hbw
            refine wp_region_above (by kernel_rfl) (by as_aux_lemma => kernel_rfl) ?_
            have hne := above_some (w3.alloc (.cells #[.string nm, .int .i64 ((b : Int) % 7 + 1), .bool ((b : Int) % 2 == 1), .string (itoa b), .bool false, .pointer none, .bool false, .string { data := #[] }, .string { data := #[] }] 46))
            repeat (go_big_quiet_step (exact quiet_itoa b (by omega) _))
            refine wpQuiet_nil ?_
            rintro _ ⟨kk, rfl⟩
            have hbe := hbx.trans (kk.below.mono hbx.size)
            clear k0 k1 k2 k3 k4 k5 k6 k7 k8 hbx
            go_wp2
            go_ret
            exact ⟨rfl, hbe⟩
        · obtain ⟨m', rfl⟩ : ∃ m', m = m' + 1 := ⟨m - 1, by omega⟩
          obtain ⟨rfl, _⟩ := hao (by omega)
          have hcell := hc2 m' (by omega)
          have ei : (((m' + 1 : Nat) : Int) - 1) = (m' : Int) := by omega
          rw [ei]
          clear hc2 F
          cases hh : hitB ss q m'
          · have ht : ((ss[m']?.getD ByteArray.empty).toList == q.toList) = false := by rw [← List.getD_eq_getElem?_getD]; exact hh
            have HH : Hid (Best ss q k B m') := HB.out.miss hh
            clear hh
            go_wp2
            go_round
            case rel =>
              first
                | exact ⟨B, m', by omega, rfl, rfl, HH.out⟩
                | ((repeat apply Exists.intro); exact ⟨⟨B, m', by omega, rfl, rfl, HH.out⟩, rfl⟩)
            case measure => simp [intOf]
          · have ht : ((ss[m']?.getD ByteArray.empty).toList == q.toList) = true := by rw [← List.getD_eq_getElem?_getD]; exact hh
            have HH : Hid (Best ss q k m' m') := Best.hit (by omega) hh
            clear hh
            go_wp2
            go_round
            case rel =>
              first
                | exact ⟨m', m', by omega, rfl, rfl, HH.out⟩
                | ((repeat apply Exists.intro); exact ⟨⟨m', m', by omega, rfl, rfl, HH.out⟩, rfl⟩)
            case measure => simp [intOf]
end Go.Proofs.Qxb6000028a
