import Derived.Test.Qxb6000028aFirst
import Derived.Deep.RegionLawGrows
import Derived.Deep.DeepCutAuto
import Derived.Deep.RegionHeld
import Derived.Lib.SmallJoins
namespace Go.Proofs.Qxb6000028a
open Go.RowKit

set_option maxHeartbeats 1000000 in
theorem bytes20 (a : Option Addr) (len cap : Nat) (ss : List ByteArray) (q x : ByteArray) (w : World) (h : Names w a len cap ss) (_hq : q.size ≤ maxLen) (_hx : x.size ≤ maxLen) :
    Calls Try.prog 20 #[.slice a len cap, .string q, .string x] w fun e w' => SomeBool e ∧ w = w' := by
  have hp := h.pos
  have hm := h.max
  unfold maxLen at hm
  clear h
  go_enter Try.func20, Try.ntmps20
  go_wp2
  all_goals first | (go_ret; exact ⟨⟨_, rfl⟩, rfl⟩) | skip
  go_loop [7, 8] (fun t i => ∃ (T : Int) (k : Nat), k ≤ len ∧ t = .int .i64 T ∧ i = .int .i64 k) (fun _ i => len - (intOf i).toNat)
  case atStart => exact ⟨_, 0, by omega, rfl, rfl⟩
  case round =>
    obtain ⟨T, k, hk, rfl, rfl⟩ := hrel
    by_cases hlt : k < len
    · obtain ⟨b, off, rfl, hc⟩ := hp (by omega)
      have hcell := hc k hlt
      clear hc hp
      go_wp2
      all_goals first
        | (go_round
           case rel => exact ⟨_, k + 1, by omega, rfl, by go_num⟩
           case measure => simp [intOf]; omega)
        | (go_ret; exact ⟨⟨_, rfl⟩, rfl⟩)
    · clear hp
      go_wp2
      all_goals (go_ret; exact ⟨⟨_, rfl⟩, rfl⟩)


def addedAV (x : ByteArray) : AV := ⟨x, 5, true, { data := #[101, 120, 116, 114, 97] }, true, { data := #[109, 105, 114, 114, 111, 114] }⟩
/-- The attributes with one more behind them. -/
def avX (ss : List ByteArray) (x : ByteArray) (k i : Nat) : AV := if i < k then avAt ss i else addedAV x

/-- What stands behind the append. -/
def Stage (w wx : World) (M n3 : Nat) (ss : List ByteArray) (x : ByteArray) (k : Nat) (g1 : AV) : Prop :=
  ∃ G' c', wx.cell? ⟨M, 4, none⟩ = some (.slice (some ⟨G', 0, none⟩) (k + 1) c') ∧ G' < wx.heap.size ∧ (∀ i, i < k + 1 → ∀ j, j < 9 → wx.cell? ⟨G', i * 9 + j, none⟩ = (avX ss x k i).cells[j]?) ∧
    (∀ j, j < 9 → wx.cell? ⟨n3, j, none⟩ = g1.cells[j]?) ∧ (∀ j, j < 9 → wx.cell? ⟨n3 + 1, j, none⟩ = (addedAV x).cells[j]?) ∧ Below w.heap.size w wx

theorem cells_some (a : AV) (j : Nat) (hj : j < 9) : ∃ v, a.cells[j]? = some v := ⟨a.cells[j]'(by simpa [AV.cells] using hj), by simp⟩

theorem cell_in {W : World} {a : Addr} {v : Value} {o : Obj} (h : W.cell? a = some v) : (W.alloc o).drew.cell? a = some v := (World.cell?_alloc_lt _ _ _ (block_lt_of_cell h)).trans h
theorem cells_in {W : World} {b : Nat} {o : Obj} {av : AV} (h : ∀ j, j < 9 → W.cell? ⟨b, j, none⟩ = av.cells[j]?) : ∀ j, j < 9 → (W.alloc o).drew.cell? ⟨b, j, none⟩ = av.cells[j]? := fun j hj => by
  obtain ⟨v, hv⟩ := cells_some av j hj
  rw [hv]
  exact cell_in ((h j hj).trans hv)
theorem frozen_in {W w' : World} {a : Addr} {v : Value} {o : Obj} (hg : (W.alloc o).drew.grownBy w' none) (h : W.cell? a = some v) (hf : W.frozen? a = false) : w'.frozen? a = false := by
  have hl := block_lt_of_cell h
  have e1 : w'.frozen? a = (W.alloc o).frozen? a := World.frozen?_of_block (hg.block a.block (by show a.block < (W.alloc o).heap.size; simp; omega) (by simp))
  have e2 : (W.alloc o).frozen? a = W.frozen? a := World.frozen?_of_block (Below.heap_alloc W o a.block hl)
  rw [e1, e2, hf]
theorem old_in {W : World} {g : Nat} {olds : List Value} {o : Obj} (h : ∀ j u, olds[j]? = some u → W.cell? ⟨g, j, none⟩ = some u) : ∀ b, some (⟨g, 0, none⟩ : Addr) = some b → ∀ j u, olds[j]? = some u → (W.alloc o).drew.cell? (b.add j) = some u := by
  intro b hb j u hu
  cases hb
  rw [Addr.add_lit, Nat.zero_add]
  exact cell_in (h j u hu)
theorem new_in (W : World) (x : ByteArray) : ∀ j u, (addedAV x).cells[j]? = some u → (W.alloc (.cells #[.string x, .int .i64 5, .bool true, .string { data := #[101, 120, 116, 114, 97] }, .bool false, .pointer none, .bool true, .string { data := #[] }, .string { data := #[109, 105, 114, 114, 111, 114] }] 46)).drew.cell? ((⟨W.heap.size, 0, none⟩ : Addr).add j) = some u := by
  intro j u hu
  have hj : j < 9 := by simpa [AV.cells] using (List.getElem?_eq_some_iff.1 hu).1
  have h9 : j = 0 ∨ j = 1 ∨ j = 2 ∨ j = 3 ∨ j = 4 ∨ j = 5 ∨ j = 6 ∨ j = 7 ∨ j = 8 := by omega
  rw [Addr.add_lit, Nat.zero_add]
  rcases h9 with rfl | rfl | rfl | rfl | rfl | rfl | rfl | rfl | rfl <;> simpa [AV.cells, addedAV] using hu
theorem one_in (x : ByteArray) : ∀ u ∈ (addedAV x).cells, u.oneCell' = true := by
  intro u hu
  simp [AV.cells] at hu
  rcases hu with rfl | rfl | rfl | rfl | rfl | rfl | rfl | rfl | rfl <;> rfl

theorem stage_of {w W5 w' : World} {M n3 G' c' k : Nat} {ss : List ByteArray} {x : ByteArray} {g1 : AV} {v0 : Value} (hbel : Below w.heap.size w W5) (hMw : w.heap.size ≤ M) (hMl : M < W5.heap.size) (hMn : M < n3) (hM4 : W5.cell? ⟨M, 4, none⟩ = some v0)
    (hg1 : ∀ j, j < 9 → W5.cell? ⟨n3, j, none⟩ = g1.cells[j]?) (had : ∀ j, j < 9 → W5.cell? ⟨n3 + 1, j, none⟩ = (addedAV x).cells[j]?)
    (hown : w'.ownsRow W5.heap.size 46 9 (.slice (some ⟨G', 0, none⟩) (k + 1) c') (k + 1) (cellsA ss k k ++ (addedAV x).cells)) (hgrow : W5.grownBy w' none) :
    Stage w (w'.setCell ⟨M, 4, none⟩ (.slice (some ⟨G', 0, none⟩) (k + 1) c')) M n3 ss x k g1 := by
  have hG := hown.lt G' rfl
  have kp : ∀ (a : Addr) (v : Value), W5.cell? a = some v → w'.cell? a = some v := fun a v ha => hgrow.cell ha (by simp)
  have far : ∀ (a : Addr), M ≠ a.block → (w'.setCell ⟨M, 4, none⟩ (.slice (some ⟨G', 0, none⟩) (k + 1) c')).cell? a = w'.cell? a := fun a ha => World.cell?_setCell_far w' ⟨M, 4, none⟩ a _ ha
  refine ⟨G', c', ?_, ?_, ?_, ?_, ?_, ?_⟩
  · have := kp _ _ hM4
    exact World.cell?_setCell_same w' _ _ (by rw [this])
  · simpa [World.setCell] using hG.2
  · intro i hi j hj
    rw [far _ (by show M ≠ G'; omega), hown.cellAt _ (by omega), Nat.mul_comm i 9]
    unfold avX
    by_cases hik : i < k
    · rw [if_pos hik, List.getElem?_append_left (by rw [cellsA_len]; omega), cellsA_get ss k k i j hik hj]
      unfold cellF
      rw [if_pos hik]
      rfl
    · have e : i = k := by omega
      subst e
      rw [if_neg hik, List.getElem?_append_right (by rw [cellsA_len]; omega), cellsA_len, show 9 * i + j - 9 * i = j by omega]
  · intro j hj
    obtain ⟨v, hv⟩ := cells_some g1 j hj
    rw [far _ (by show M ≠ n3; omega), hv]
    exact kp _ _ ((hg1 j hj).trans hv)
  · intro j hj
    obtain ⟨v, hv⟩ := cells_some (addedAV x) j hj
    rw [far _ (by show M ≠ n3 + 1; omega), hv]
    exact kp _ _ ((had j hj).trans hv)
  · exact (hbel.grown hgrow hbel.size (fun k h => by cases h)).setCell hMw _

theorem later9 {w w' : World} {a : Addr} {v : Value} (hb : Below w.heap.size w w') (h : w.cell? a = some v) : w'.cell? a = some v := (hb.cell (block_lt_of_cell h)).trans h

/-- What find answers over the longer list. -/
theorem find_same {ss : List ByteArray} {q x : ByteArray} {k k0 : Nat} {wc : World} (h1 : k0 < k) (h3 : ((avAt ss k0).name.toList == q.toList) = true) (h4 : ∀ j, j < k0 → ((avAt ss j).name.toList == q.toList) = false) :
    ∀ (e : Ending) (w' : World), (((∃ i, i < k + 1 ∧ ((avX ss x k i).name.toList == q.toList) = true ∧ (∀ j, j < i → ((avX ss x k j).name.toList == q.toList) = false) ∧ e = .returned (.tuple #[(avX ss x k i).agg, .bool true])) ∨
      ((∀ j, j < k + 1 → ((avX ss x k j).name.toList == q.toList) = false) ∧ e = .returned (.tuple #[AV.zero.agg, .bool false]))) ∧ Below wc.heap.size wc w') → e = .returned (.tuple #[(avAt ss k0).agg, .bool true]) ∧ Below wc.heap.size wc w' := by
  have ex : ∀ j, j < k → avX ss x k j = avAt ss j := fun j hj => by unfold avX; rw [if_pos hj]
  rintro e w' ⟨h | h, hb⟩
  · obtain ⟨i, hi, ht, hlow, rfl⟩ := h
    have e1 : i = k0 := by
      by_cases hlt : i < k0
      · rw [ex i (by omega), h4 i hlt] at ht; cases ht
      · by_cases hgt : k0 < i
        · have := hlow k0 hgt
          rw [ex k0 h1, h3] at this; cases this
        · omega
    subst e1
    rw [ex i h1]
    exact ⟨rfl, hb⟩
  · have := h.1 k0 (by omega)
    rw [ex k0 h1, h3] at this; cases this
theorem find_new {ss : List ByteArray} {q x : ByteArray} {k : Nat} {wc : World} (hno : ∀ j, j < k → ((avAt ss j).name.toList == q.toList) = false) (hx : (x.toList == q.toList) = true) :
    ∀ (e : Ending) (w' : World), (((∃ i, i < k + 1 ∧ ((avX ss x k i).name.toList == q.toList) = true ∧ (∀ j, j < i → ((avX ss x k j).name.toList == q.toList) = false) ∧ e = .returned (.tuple #[(avX ss x k i).agg, .bool true])) ∨
      ((∀ j, j < k + 1 → ((avX ss x k j).name.toList == q.toList) = false) ∧ e = .returned (.tuple #[AV.zero.agg, .bool false]))) ∧ Below wc.heap.size wc w') → e = .returned (.tuple #[(addedAV x).agg, .bool true]) ∧ Below wc.heap.size wc w' := by
  have ex : ∀ j, j < k → avX ss x k j = avAt ss j := fun j hj => by unfold avX; rw [if_pos hj]
  have ek : avX ss x k k = addedAV x := by unfold avX; rw [if_neg (Nat.lt_irrefl k)]
  rintro e w' ⟨h | h, hb⟩
  · obtain ⟨i, hi, ht, _, rfl⟩ := h
    by_cases hlt : i < k
    · rw [ex i hlt, hno i hlt] at ht; cases ht
    · have e1 : i = k := by omega
      subst e1
      rw [ek]
      exact ⟨rfl, hb⟩
  · have := h.1 k (by omega)
    rw [ek] at this
    rw [show (addedAV x).name = x from rfl, hx] at this; cases this
theorem find_none {ss : List ByteArray} {q x : ByteArray} {k : Nat} {wc : World} (hno : ∀ j, j < k → ((avAt ss j).name.toList == q.toList) = false) (hx : (x.toList == q.toList) = false) :
    ∀ (e : Ending) (w' : World), (((∃ i, i < k + 1 ∧ ((avX ss x k i).name.toList == q.toList) = true ∧ (∀ j, j < i → ((avX ss x k j).name.toList == q.toList) = false) ∧ e = .returned (.tuple #[(avX ss x k i).agg, .bool true])) ∨
      ((∀ j, j < k + 1 → ((avX ss x k j).name.toList == q.toList) = false) ∧ e = .returned (.tuple #[AV.zero.agg, .bool false]))) ∧ Below wc.heap.size wc w') → e = .returned (.tuple #[AV.zero.agg, .bool false]) ∧ Below wc.heap.size wc w' := by
  have ex : ∀ j, j < k → avX ss x k j = avAt ss j := fun j hj => by unfold avX; rw [if_pos hj]
  have ek : avX ss x k k = addedAV x := by unfold avX; rw [if_neg (Nat.lt_irrefl k)]
  rintro e w' ⟨h | h, hb⟩
  · obtain ⟨i, hi, ht, _, rfl⟩ := h
    by_cases hlt : i < k
    · rw [ex i hlt, hno i hlt] at ht; cases ht
    · have e1 : i = k := by omega
      subst e1
      rw [ek, show (addedAV x).name = x from rfl, hx] at ht; cases ht
  · exact ⟨h.2, hb⟩

set_option maxRecDepth 100000 in
set_option maxHeartbeats 4000000 in
theorem append_in (a : Option Addr) (len cap : Nat) (ss : List ByteArray) (q x : ByteArray) (w : World) (h : Names w a len cap ss) (hq : q.size ≤ maxLen) (hx : x.size ≤ maxLen) :
    Calls Try.prog 7 #[.slice a len cap, .string q, .string x] w fun e w' => e = .returned (.bool true) ∧ Below w.heap.size w w' := by
  have Z := bytes20 a len cap ss q x w h hq hx
  have hp := h.pos
  have hm := h.max
  have HN : Hid (Names w a len cap ss) := h
  unfold maxLen at hm hq hx
  clear h
  go_enter Try.func7, Try.ntmps7
  go_wp2_with (go_at_call 20; refine Z.mono ?_; rintro e w' ⟨⟨r, rfl⟩, rfl⟩)
  all_goals first | (go_ret; exact ⟨rfl, Below.refl _ _⟩) | skip
  clear Z
  go_loop [7, 8] (fun t i => ∃ (T : Int) (k : Nat), k ≤ len ∧ t = .int .i64 T ∧ i = .int .i64 k) (fun _ i => len - (intOf i).toNat)
  case atStart => exact ⟨_, 0, by omega, rfl, rfl⟩
  case round =>
    obtain ⟨T, k, hk, rfl, rfl⟩ := hrel
    by_cases hlt : k < len
    · obtain ⟨b, off, rfl, hc⟩ := hp (by omega)
      have hcell := hc k hlt
      clear hc hp
      go_wp2
      all_goals first
        | (go_round
           case rel => exact ⟨_, k + 1, by omega, rfl, by go_num⟩
           case measure => simp [intOf]; omega)
        | (go_ret; exact ⟨rfl, Below.refl _ _⟩)
    · have hkl : k = len := by omega
      subst hkl
      have hl16 : k ≤ 65536 := by omega
      have N := HN.out
      have hlen := N.length
      have C := copy_gen a k cap ss w N.nil (by rw [N.length]; exact Nat.le_refl _) hl16 N.cell
      clear hp hlt N
      go_wp2_with fail
      refine C.mono ?_
      rintro e w1 ⟨ao, rfl, hao, hcz, hb1⟩
      have A := attrModel_any ao w.heap.size k ss w1 hl16 hlen hao hcz
      clear C
      go_wp2_with fail
      refine A.mono ?_
      rintro e w2 ⟨M, rfl, hM4, hMf, hMl, hown, hb2⟩
      clear A hao hcz
      have hbw : Below w.heap.size w w2 := hb1.trans (hb2.mono hb1.size)
      have hGl : w1.heap.size < w2.heap.size := (hown.lt w1.heap.size rfl).2
      have hav : ∀ i, i < k → ∀ j, j < 9 → w2.cell? ⟨w1.heap.size, i * 9 + j, none⟩ = (avAt ss i).cells[j]? := fun i hi j hj => by
        rw [hown.cellAt _ (by omega), Nat.mul_comm i 9, cellsA_get ss k k i j hi hj]
        unfold cellF
        rw [if_pos hi]
        rfl
      have F := find_any M w1.heap.size k k (avAt ss) q w2 (by omega) hGl hM4 hav
      go_wp2_with fail
      refine F.mono ?_
      rintro e w3 ⟨hout, hb3⟩
      have hout' : ∃ (g1 : AV) (ok1 : Bool), e = .returned (.tuple #[g1.agg, .bool ok1]) ∧ ((ok1 = true ∧ ∃ k0, k0 < k ∧ g1 = avAt ss k0 ∧ ((avAt ss k0).name.toList == q.toList) = true ∧ (∀ j, j < k0 → ((avAt ss j).name.toList == q.toList) = false)) ∨ (ok1 = false ∧ ∀ j, j < k → ((avAt ss j).name.toList == q.toList) = false)) := by
        rcases hout with ⟨k0, h1, h2, h3, h4⟩ | ⟨h1, h2⟩
        · exact ⟨_, _, h4, .inl ⟨rfl, k0, h1, rfl, h2, h3⟩⟩
        · exact ⟨_, _, h2, .inr ⟨rfl, h1⟩⟩
      clear hout F
      obtain ⟨g1, ok1, rfl, HO⟩ := hout'
      have HOH : Hid ((ok1 = true ∧ ∃ k0, k0 < k ∧ g1 = avAt ss k0 ∧ ((avAt ss k0).name.toList == q.toList) = true ∧ (∀ j, j < k0 → ((avAt ss j).name.toList == q.toList) = false)) ∨ (ok1 = false ∧ ∀ j, j < k → ((avAt ss j).name.toList == q.toList) = false)) := HO
      clear HO
      unfold AV.agg
      go_wp2_with fail
      obtain ⟨W4, hW4⟩ : ∃ W4, W4 = (w3.alloc (.cells #[.string g1.name, .int .i64 g1.scalar, .bool g1.list, .string g1.desc, .bool false, .pointer none, .bool g1.unique, .string { data := #[] }, .string g1.mirror] 46)).alloc (.cells #[.string x, .int .i64 5, .bool true, .string { data := #[101, 120, 116, 114, 97] }, .bool false, .pointer none, .bool true, .string { data := #[] }, .string { data := #[109, 105, 114, 114, 111, 114] }] 46) := ⟨_, rfl⟩
      rw [← hW4]
      have hMl2 : M < w2.heap.size := block_lt_of_cell hM4
      have hMw : w.heap.size ≤ M := by have := hb1.size; omega
      have hs3 := hb3.size
      have hs4 : W4.heap.size = w3.heap.size + 2 := by rw [hW4]; simp
      have hb4 : Below w3.heap.size w3 W4 := by rw [hW4]; exact ((Below.refl _ _).alloc (Nat.le_refl _) _).alloc (by simp) _
      have hb24 : Below w2.heap.size w2 W4 := hb3.trans (hb4.mono hs3)
      have kp : ∀ (a : Addr) (v : Value), w2.cell? a = some v → W4.cell? a = some v := fun a v ha => (hb24.cell (block_lt_of_cell ha)).trans ha
      have m4 := kp _ _ hM4
      have mf : W4.frozen? ⟨M, 4, none⟩ = false := (hb24.frozen (p := ⟨M, 4, none⟩) hMl2).trans hMf
      have hbW : Below w.heap.size w W4 := hbw.trans (hb24.mono hbw.size)
      have hold4 : ∀ j u, (cellsA ss k k)[j]? = some u → W4.cell? ⟨w1.heap.size, j, none⟩ = some u := fun j u hu => kp _ _ (by
        have hj := (List.getElem?_eq_some_iff.1 hu).1
        rw [cellsA_len] at hj
        rw [hown.cellAt j (by omega)]; exact hu)
      have hg1 : ∀ j, j < 9 → W4.cell? ⟨w3.heap.size, j, none⟩ = g1.cells[j]? := fun j hj => by
        rw [hW4, World.cell?_alloc_lt _ _ _ (by simp)]
        have h9 : j = 0 ∨ j = 1 ∨ j = 2 ∨ j = 3 ∨ j = 4 ∨ j = 5 ∨ j = 6 ∨ j = 7 ∨ j = 8 := by omega
        rcases h9 with rfl | rfl | rfl | rfl | rfl | rfl | rfl | rfl | rfl <;> simp [AV.cells]
      have had : ∀ j, j < 9 → W4.cell? ⟨w3.heap.size + 1, j, none⟩ = (addedAV x).cells[j]? := fun j hj => by
        rw [hW4]
        have h9 : j = 0 ∨ j = 1 ∨ j = 2 ∨ j = 3 ∨ j = 4 ∨ j = 5 ∨ j = 6 ∨ j = 7 ∨ j = 8 := by omega
        rcases h9 with rfl | rfl | rfl | rfl | rfl | rfl | rfl | rfl | rfl <;> simp [AV.cells, addedAV]
      clear hW4 kp hb24 hb4 hb3 hb2 hb1 hav hown hGl hM4 hMf
      have d0 : W4.cell? ⟨w3.heap.size + 1, 0, none⟩ = some (.string x) := had 0 (by omega)
      have d1 : W4.cell? ⟨w3.heap.size + 1, 1, none⟩ = some (.int .i64 5) := had 1 (by omega)
      have d2 : W4.cell? ⟨w3.heap.size + 1, 2, none⟩ = some (.bool true) := had 2 (by omega)
      have d3 : W4.cell? ⟨w3.heap.size + 1, 3, none⟩ = some (.string { data := #[101, 120, 116, 114, 97] }) := had 3 (by omega)
      have d4 : W4.cell? ⟨w3.heap.size + 1, 4, none⟩ = some (.bool false) := had 4 (by omega)
      have d5 : W4.cell? ⟨w3.heap.size + 1, 5, none⟩ = some (.pointer none) := had 5 (by omega)
      have d6 : W4.cell? ⟨w3.heap.size + 1, 6, none⟩ = some (.bool true) := had 6 (by omega)
      have d7 : W4.cell? ⟨w3.heap.size + 1, 7, none⟩ = some (.string { data := #[] }) := had 7 (by omega)
      have d8 : W4.cell? ⟨w3.heap.size + 1, 8, none⟩ = some (.string { data := #[109, 105, 114, 114, 111, 114] }) := had 8 (by omega)
      have hMW : M < W4.heap.size := by omega
      have hAW : w3.heap.size + 1 < W4.heap.size := by omega
      obtain ⟨i0, hi, hz0, hz1, hz2⟩ := info_parts Try.info46
      have HG1 : Hid (∀ j, j < 9 → W4.cell? ⟨w3.heap.size, j, none⟩ = g1.cells[j]?) := hg1
      have HAD : Hid (∀ j, j < 9 → W4.cell? ⟨w3.heap.size + 1, j, none⟩ = (addedAV x).cells[j]?) := had
      have HOL : Hid (∀ j u, (cellsA ss k k)[j]? = some u → W4.cell? ⟨w1.heap.size, j, none⟩ = some u) := hold4
      have HSZ : Hid (W4.heap.size = w3.heap.size + 2) := hs4
      clear hg1 had hold4 hs4
      go_cut [76] (fun _ wx => Stage w wx M w3.heap.size ss x k g1)
      case first =>
        go_region_law (refine step_append_grows rfl (.tmp 73) (.tmp 75) 51 rfl 46 i0 _ 9 104 Try.underlying51 hi hz0 hz1 hz2 rfl (by decide) (some ⟨w1.heap.size, 0, none⟩) k k (cellsA ss k k) (by simp [Act.eval]) (fun h => by cases h) (by rw [cellsA_len]; omega) (old_in HOL.out) ⟨W4.heap.size, 0, none⟩ 1 1 (addedAV x).cells (by simp [Act.eval]) rfl (new_in W4 x) (one_in x) (by omega) (by unfold maxLen; omega) (by omega) ?_; intro v' w' hown' hgrow'; obtain ⟨G', c', hv'⟩ := Joins.ownsRow_form hown' (by omega); rw [hv']; rw [hv'] at hown'; have m5 : w'.cell? ⟨M, 4, none⟩ = some (.slice (some ⟨w1.heap.size, 0, none⟩) k k) := hgrow'.cell (cell_in m4) (by simp); have f5 : w'.frozen? ⟨M, 4, none⟩ = false := frozen_in hgrow' m4 mf)
        all_goals
          go_wp2_with fail
          go_meet
          exact stage_of (hbW.alloc hbW.size _).drew hMw (by show M < (W4.alloc _).heap.size; simp; omega) (by omega) (cell_in m4) (cells_in HG1.out) (cells_in HAD.out) hown' hgrow'
      case rest =>
        obtain ⟨G', c', e1, e2, e3, e4, e5, e6⟩ := hcut
        have F2 := find_any M G' (k + 1) c' (avX ss x k) q wc (by omega) e2 e1 e3
        have hpn := pn23
        clear e1 e2 e3 HOL HG1 HAD HSZ d0 d1 d2 d3 d4 d5 d6 d7 d8 m4 mf hbW hMW hAW hi hz0 hz1 hz2 hbw hMl2 hs3 hMw hMl
        rcases HOH.out with ⟨rfl, k0, h1, rfl, h3, h4⟩ | ⟨rfl, hno⟩
        · have F3 := F2.mono (find_same h1 h3 h4)
          clear F2 HOH h3 h4 e5
          generalize avAt ss k0 = av at F3 e4
          obtain ⟨nm, sc, li, de, un, mi⟩ := av
          unfold AV.agg at F3
          simp only at F3
          go_wp2_with fail
          refine F3.mono ?_
          rintro e w5 ⟨rfl, hb5⟩
          have c0 : w5.cell? ⟨w3.heap.size, 0, none⟩ = some (.string nm) := later9 hb5 (e4 0 (by omega))
          have c1 : w5.cell? ⟨w3.heap.size, 1, none⟩ = some (.int .i64 sc) := later9 hb5 (e4 1 (by omega))
          have c2 : w5.cell? ⟨w3.heap.size, 2, none⟩ = some (.bool li) := later9 hb5 (e4 2 (by omega))
          have c3 : w5.cell? ⟨w3.heap.size, 3, none⟩ = some (.string de) := later9 hb5 (e4 3 (by omega))
          have c4 : w5.cell? ⟨w3.heap.size, 4, none⟩ = some (.bool false) := later9 hb5 (e4 4 (by omega))
          have c5 : w5.cell? ⟨w3.heap.size, 5, none⟩ = some (.pointer none) := later9 hb5 (e4 5 (by omega))
          have c6 : w5.cell? ⟨w3.heap.size, 6, none⟩ = some (.bool un) := later9 hb5 (e4 6 (by omega))
          have c7 : w5.cell? ⟨w3.heap.size, 7, none⟩ = some (.string { data := #[] }) := later9 hb5 (e4 7 (by omega))
          have c8 : w5.cell? ⟨w3.heap.size, 8, none⟩ = some (.string mi) := later9 hb5 (e4 8 (by omega))
          have hbe := e6.trans (hb5.mono e6.size)
          have hlt5 : w3.heap.size < w5.heap.size := block_lt_of_cell c0
          clear F3 e4 hb5 e6
          go_wp2
          go_ret
          exact ⟨rfl, hbe.alloc hbe.size _⟩
        · by_cases hxq : (x.toList == q.toList) = true
          · have F3 := F2.mono (find_new hno hxq)
            clear F2 HOH hno e4
            unfold AV.agg addedAV at F3
            simp only at F3
            go_wp2_with fail
            refine F3.mono ?_
            rintro e w5 ⟨rfl, hb5⟩
            have c0 : w5.cell? ⟨w3.heap.size + 1, 0, none⟩ = some (.string x) := later9 hb5 (e5 0 (by omega))
            have c1 : w5.cell? ⟨w3.heap.size + 1, 1, none⟩ = some (.int .i64 5) := later9 hb5 (e5 1 (by omega))
            have c2 : w5.cell? ⟨w3.heap.size + 1, 2, none⟩ = some (.bool true) := later9 hb5 (e5 2 (by omega))
            have c3 : w5.cell? ⟨w3.heap.size + 1, 3, none⟩ = some (.string { data := #[101, 120, 116, 114, 97] }) := later9 hb5 (e5 3 (by omega))
            have c4 : w5.cell? ⟨w3.heap.size + 1, 4, none⟩ = some (.bool false) := later9 hb5 (e5 4 (by omega))
            have c5 : w5.cell? ⟨w3.heap.size + 1, 5, none⟩ = some (.pointer none) := later9 hb5 (e5 5 (by omega))
            have c6 : w5.cell? ⟨w3.heap.size + 1, 6, none⟩ = some (.bool true) := later9 hb5 (e5 6 (by omega))
            have c7 : w5.cell? ⟨w3.heap.size + 1, 7, none⟩ = some (.string { data := #[] }) := later9 hb5 (e5 7 (by omega))
            have c8 : w5.cell? ⟨w3.heap.size + 1, 8, none⟩ = some (.string { data := #[109, 105, 114, 114, 111, 114] }) := later9 hb5 (e5 8 (by omega))
            have hbe := e6.trans (hb5.mono e6.size)
            have hlt5 : w3.heap.size + 1 < w5.heap.size := block_lt_of_cell c0
            clear F3 e5 hb5 e6
            go_wp2
            go_ret
            exact ⟨rfl, hbe.alloc hbe.size _⟩
          · have hxq' : (x.toList == q.toList) = false := by simpa using hxq
            have F3 := F2.mono (find_none hno hxq')
            clear F2 HOH hno e4 e5 hxq
            unfold AV.agg AV.zero at F3
            simp only at F3
            go_wp2_with fail
            refine F3.mono ?_
            rintro e w5 ⟨rfl, hb5⟩
            have hbe := e6.trans (hb5.mono e6.size)
            clear F3 hb5 e6
            go_wp2
            go_ret
            exact ⟨rfl, (hbe.alloc hbe.size _).alloc (Nat.le_trans hbe.size (by simp)) _⟩
end Go.Proofs.Qxb6000028a
