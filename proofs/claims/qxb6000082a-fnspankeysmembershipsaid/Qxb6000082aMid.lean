import Derived.Test.Qxb6000082aAdmits
namespace Go.Proofs.Qxb6000082a
open Go.RowKit

theorem heap_set_same {w : World} {g i : Nat} {cs : Array Value} {t : TypeId} (v : Value) (hg : w.heap[g]? = some (.cells cs t)) : (w.setCell ⟨g, i, none⟩ v).heap[g]? = some (.cells (cs.setIfInBounds i v) t) := by
  simp [World.setCell, Array.getElem?_modify, hg]
theorem cell_heap {w : World} {g i : Nat} {cs : Array Value} {t : TypeId} (hg : w.heap[g]? = some (.cells cs t)) : w.cell? ⟨g, i, none⟩ = cs[i]? := by
  simp [World.cell?, hg]
theorem frozen_heap {w : World} {g i : Nat} {cs : Array Value} {t : TypeId} (hg : w.heap[g]? = some (.cells cs t)) : w.frozen? ⟨g, i, none⟩ = false := by
  simp [World.frozen?, hg]
theorem Sl.set {w : World} {a : Option Addr} {A : List Int} {c : Nat} {p : Addr} {v0 : Value} (h : Sl w a A c) (hp : w.cell? p = some v0) (hv : ∀ z, v0 ≠ .int .u8 z) (v : Value) : Sl (w.setCell p v) a A c :=
  ⟨h.nil, h.fit, fun x hx j hj => (by
    have hc := h.cell x hx j hj
    rw [World.cell?_setCell_other _ _ _ _ (by
      rintro rfl
      rw [hp] at hc
      exact hv _ (by injection hc))]
    exact hc), h.byte, h.small⟩
theorem AtB.set {w : World} {p : Option Addr} {K : Option (List Int)} {x : Bool} {q : Addr} {v0 : Value} {z0 : Option Addr} (h : AtB w p K x) (hq : w.cell? q = some v0) (hv : ∀ z, v0 ≠ .int .u8 z) (h0 : w.cell? ⟨q.block, 0, none⟩ = some (.pointer z0)) (v : Value) : AtB (w.setCell q v) p K x := by
  cases K with
  | none => exact h
  | some u =>
    obtain ⟨g, o, c, e, h1, h2, hs⟩ := h
    have hne : g ≠ q.block := by
      rintro rfl
      rw [h0] at h1
      injection h1 with h1
      cases h1
    have k1 : (w.setCell q v).cell? ⟨g, 0, none⟩ = w.cell? ⟨g, 0, none⟩ := World.cell?_of_block (Below.heap_setCell w q v g hne)
    have k2 : (w.setCell q v).cell? ⟨g, 1, none⟩ = w.cell? ⟨g, 1, none⟩ := World.cell?_of_block (Below.heap_setCell w q v g hne)
    exact ⟨g, o, c, e, k1.trans h1, k2.trans h2, hs.set hq hv v⟩

/-- What stands ahead of the second switch, and behind it. -/
structure Mid (w wx : World) (lp up a b : Option Addr) (A B : List Int) (ca cb : Nat) (x y n : Bool) : Prop where
  bel : Below w.heap.size w wx
  size : w.heap.size + 1 + 1 < wx.heap.size
  sp : wx.heap[w.heap.size]? = some (.cells #[.slice a A.length ca, .slice b B.length cb, .bool x, .bool y, .bool n] 48)
  res : wx.heap[w.heap.size + 1]? = some (.cells #[.pointer none, .pointer none, .bool false, .int .i64 0] 27)
  r : wx.heap[w.heap.size + 1 + 1]? = some (.cells #[.pointer lp, .pointer up, .bool false, .int .i64 0] 27)

abbrev W3 (w : World) (a b : Option Addr) (A B : List Int) (ca cb : Nat) (x y n : Bool) : World :=
  ((w.alloc (.cells #[.slice a A.length ca, .slice b B.length cb, .bool x, .bool y, .bool n] 48)).alloc (.cells #[.pointer none, .pointer none, .bool false, .int .i64 0] 27)).alloc (.cells #[.pointer none, .pointer none, .bool false, .int .i64 0] 27)

theorem heap_new (w : World) (o : Obj) (k : Nat) (h : k = w.heap.size) : (w.alloc o).heap[k]? = some o := by subst h; unfold World.alloc; simp
theorem mid0 (w : World) (a b : Option Addr) (A B : List Int) (ca cb : Nat) (x y n : Bool) : Mid w (W3 w a b A B ca cb x y n) none none a b A B ca cb x y n := by
  refine ⟨(((Below.refl _ _).alloc (Nat.le_refl _) _).alloc (by simp) _).alloc (by simp; omega) _, by simp, ?_, ?_, ?_⟩
  · rw [Below.heap_alloc _ _ _ (by simp; omega), Below.heap_alloc _ _ _ (by simp), heap_new _ _ _ rfl]
  · rw [Below.heap_alloc _ _ _ (by simp), heap_new _ _ _ (by simp)]
  · rw [heap_new _ _ _ (by simp)]

variable {w wx : World} {lp up a b : Option Addr} {A B : List Int} {ca cb : Nat} {x y n : Bool}
theorem Mid.later {wy : World} (h : Mid w wx lp up a b A B ca cb x y n) (hb : Below wx.heap.size wx wy) : Mid w wy lp up a b A B ca cb x y n :=
  have hs := h.size
  ⟨h.bel.trans (hb.mono h.bel.size), Nat.lt_of_lt_of_le h.size hb.size, (hb.block _ (by omega)).trans h.sp, (hb.block _ (by omega)).trans h.res, (hb.block _ (by omega)).trans h.r⟩

theorem Mid.setLow (h : Mid w wx lp up a b A B ca cb x y n) (q : Option Addr) : Mid w (wx.setCell ⟨w.heap.size + 1 + 1, 0, none⟩ (.pointer q)) q up a b A B ca cb x y n :=
  ⟨h.bel.setCell (by simp; omega) _, by simpa using h.size, (Below.heap_setCell _ _ _ _ (by simp; omega)).trans h.sp, (Below.heap_setCell _ _ _ _ (by simp)).trans h.res, heap_set_same _ h.r⟩
theorem Mid.setUp (h : Mid w wx lp up a b A B ca cb x y n) (q : Option Addr) : Mid w (wx.setCell ⟨w.heap.size + 1 + 1, 1, none⟩ (.pointer q)) lp q a b A B ca cb x y n :=
  ⟨h.bel.setCell (by simp; omega) _, by simpa using h.size, (Below.heap_setCell _ _ _ _ (by simp; omega)).trans h.sp, (Below.heap_setCell _ _ _ _ (by simp)).trans h.res, heap_set_same _ h.r⟩

/-- A new Bound. -/
theorem newB {o : Option Addr} {u : List Int} {c : Nat} (hs : Sl wx o u c) (m : Bool) : AtB (wx.alloc (.cells #[.slice o u.length c, .bool m] 34)) (some ⟨wx.heap.size, 0, none⟩) (some u) m :=
  ⟨wx.heap.size, o, c, rfl, by simp, by simp, hs.later ((Below.refl _ _).alloc (Nat.le_refl _) _)⟩

/-- The lower bound is stored. -/
theorem Mid.low {o : Option Addr} {u : List Int} {c : Nat} (h : Mid w wx none up a b A B ca cb x y n) (hs : Sl wx o u c) (m : Bool) :
    AtB ((wx.setCell ⟨w.heap.size + 1 + 1, 0, none⟩ (.pointer (some ⟨wx.heap.size, 0, none⟩))).alloc (.cells #[.slice o u.length c, .bool m] 34)) (some ⟨wx.heap.size, 0, none⟩) (some u) m ∧
    Mid w ((wx.setCell ⟨w.heap.size + 1 + 1, 0, none⟩ (.pointer (some ⟨wx.heap.size, 0, none⟩))).alloc (.cells #[.slice o u.length c, .bool m] 34)) (some ⟨wx.heap.size, 0, none⟩) up a b A B ca cb x y n := by
  have h1 := h.setLow (some ⟨wx.heap.size, 0, none⟩)
  have s1 := hs.set (v0 := .pointer none) (cell_heap (i := 0) h.r) (fun z e => by cases e) (.pointer (some ⟨wx.heap.size, 0, none⟩))
  have k := newB s1 m
  rw [World.size_setCell] at k
  exact ⟨k, h1.later ((Below.refl _ _).alloc (Nat.le_refl _) _)⟩
theorem Mid.upp {o : Option Addr} {u : List Int} {c : Nat} {L : Option (List Int)} (h : Mid w wx lp none a b A B ca cb x y n) (hl : AtB wx lp L false) (hs : Sl wx o u c) (m : Bool) :
    AtB ((wx.setCell ⟨w.heap.size + 1 + 1, 1, none⟩ (.pointer (some ⟨wx.heap.size, 0, none⟩))).alloc (.cells #[.slice o u.length c, .bool m] 34)) (some ⟨wx.heap.size, 0, none⟩) (some u) m ∧
    AtB ((wx.setCell ⟨w.heap.size + 1 + 1, 1, none⟩ (.pointer (some ⟨wx.heap.size, 0, none⟩))).alloc (.cells #[.slice o u.length c, .bool m] 34)) lp L false ∧
    Mid w ((wx.setCell ⟨w.heap.size + 1 + 1, 1, none⟩ (.pointer (some ⟨wx.heap.size, 0, none⟩))).alloc (.cells #[.slice o u.length c, .bool m] 34)) lp (some ⟨wx.heap.size, 0, none⟩) a b A B ca cb x y n := by
  have h1 := h.setUp (some ⟨wx.heap.size, 0, none⟩)
  have s1 := hs.set (v0 := .pointer none) (cell_heap (i := 1) h.r) (fun z e => by cases e) (.pointer (some ⟨wx.heap.size, 0, none⟩))
  have l1 := hl.set (v0 := .pointer none) (cell_heap (i := 1) h.r) (fun z e => by cases e) (cell_heap h.r) (.pointer (some ⟨wx.heap.size, 0, none⟩))
  have k := newB s1 m
  rw [World.size_setCell] at k
  have hb : ∀ (v : World) (ob : Obj), Below v.heap.size v (v.alloc ob) := fun v ob => (Below.refl _ _).alloc (Nat.le_refl _) _
  exact ⟨k, l1.later (hb _ _), h1.later (hb _ _)⟩

/-- The result's four cells. -/
abbrev four (wx : World) (g : Nat) (q r : Option Addr) : World :=
  (((wx.setCell ⟨g, 0, none⟩ (.pointer q)).setCell ⟨g, 1, none⟩ (.pointer r)).setCell ⟨g, 2, none⟩ (.bool false)).setCell ⟨g, 3, none⟩ (.int .i64 0)
theorem four_at {g : Nat} {p : Option Addr} {K : Option (List Int)} {m : Bool} (q r : Option Addr) (hr : wx.heap[g]? = some (.cells #[.pointer none, .pointer none, .bool false, .int .i64 0] 27)) (h : AtB wx p K m) : AtB (four wx g q r) p K m := by
  have h0 := heap_set_same (i := 0) (.pointer q) hr
  have h1 := heap_set_same (i := 1) (.pointer r) h0
  have h2 := heap_set_same (i := 2) (.bool false) h1
  have k0 := h.set (q := ⟨g, 0, none⟩) (v0 := .pointer none) (z0 := none) (cell_heap (i := 0) hr) (fun z e => by cases e) (cell_heap hr) (.pointer q)
  have k1 := k0.set (q := ⟨g, 1, none⟩) (v0 := .pointer none) (z0 := q) (cell_heap (i := 1) h0) (fun z e => by cases e) (cell_heap h0) (.pointer r)
  have k2 := k1.set (q := ⟨g, 2, none⟩) (v0 := .bool false) (z0 := q) (cell_heap (i := 2) h1) (fun z e => by cases e) (cell_heap h1) (.bool false)
  exact k2.set (q := ⟨g, 3, none⟩) (v0 := .int .i64 0) (z0 := q) (cell_heap (i := 3) h2) (fun z e => by cases e) (cell_heap h2) (.int .i64 0)
theorem four_below {B g : Nat} (q r : Option Addr) (h : Below B w wx) (hg : B ≤ g) : Below B w (four wx g q r) := (((h.setCell hg _).setCell hg _).setCell hg _).setCell hg _
end Go.Proofs.Qxb6000082a
