import Derived.Test.Qxb6000082aKeys
namespace Go.Proofs.Qxb6000082a
open Go.RowKit

/-- What ZZSpanKeys and span.keys answer. -/
def Answer (w w' : World) (p a b : Option Addr) (P A B : List Int) (x y : Bool) (e : Ending) : Prop :=
  (kLow p.isNone P (opt a A) x = none ∧ e = .returned (.tuple #[rng none none, .bool false]) ∨
        ∃ L lp up, kLow p.isNone P (opt a A) x = some L ∧ e = .returned (.tuple #[rng lp up, .bool true]) ∧ AtB w' lp L false ∧ AtB w' up (kUp p.isNone P (opt b B) y) true) ∧ Below w.heap.size w w'

set_option maxRecDepth 20000 in
set_option maxHeartbeats 1000000 in
theorem span_any (p a b : Option Addr) (P A B : List Int) (cp ca cb : Nat) (x y n : Bool) (w : World) (hp : Sl w p P cp) (ha : Sl w a A ca) (hb : Sl w b B cb) (hPA : P.length + A.length ≤ 2097152) (hPB : P.length + B.length ≤ 2097152) :
    Calls Try.prog 7 #[.slice a A.length ca, .slice b B.length cb, .bool x, .bool y, .bool n, .slice p P.length cp] w fun e w' => Answer w w' p a b P A B x y e := by
  have hb1 : Below w.heap.size w (w.alloc (.cells #[.pointer none, .pointer none, .bool false, .int .i64 0] 27)) := (Below.refl _ _).alloc (Nat.le_refl _) _
  have hr1 : (w.alloc (.cells #[.pointer none, .pointer none, .bool false, .int .i64 0] 27)).heap[w.heap.size]? = some (.cells #[.pointer none, .pointer none, .bool false, .int .i64 0] 27) := heap_new _ _ _ rfl
  have HR1 : Hid ((w.alloc (.cells #[.pointer none, .pointer none, .bool false, .int .i64 0] 27)).heap[w.heap.size]? = some (.cells #[.pointer none, .pointer none, .bool false, .int .i64 0] 27)) := hr1
  have CK := keys_any p a b P A B cp ca cb x y n _ (hp.later hb1) (ha.later hb1) (hb.later hb1) hPA hPB
  have HB1 : Hid (Below w.heap.size w (w.alloc (.cells #[.pointer none, .pointer none, .bool false, .int .i64 0] 27))) := hb1
  clear hp ha hb hPA hPB hb1 hr1
  go_enter Try.func7, Try.ntmps7
  go_wp2_with fail
  refine CK.mono ?_
  rintro e w1 ⟨⟨hq, rfl⟩ | ⟨L, lp, up, hq, rfl, h1, h2⟩, hb2⟩
  · have hb3 := HB1.out.trans (hb2.mono (by simp))
    have hr : w1.heap[w.heap.size]? = some (.cells #[.pointer none, .pointer none, .bool false, .int .i64 0] 27) := (hb2.block _ (by simp)).trans HR1.out
    have HQ : Hid (kLow p.isNone P (opt a A) x = none) := hq
    have HF : Hid (Below w.heap.size w _) := four_below none none hb3 (Nat.le_refl _)
    have r0 : w1.cell? ⟨w.heap.size, 0, none⟩ = some (.pointer none) := cell_heap hr
    have r1 : w1.cell? ⟨w.heap.size, 1, none⟩ = some (.pointer none) := cell_heap hr
    have r2 : w1.cell? ⟨w.heap.size, 2, none⟩ = some (.bool false) := cell_heap hr
    have r3 : w1.cell? ⟨w.heap.size, 3, none⟩ = some (.int .i64 0) := cell_heap hr
    have f0 : w1.frozen? ⟨w.heap.size, 0, none⟩ = false := frozen_heap hr
    have f1 : w1.frozen? ⟨w.heap.size, 1, none⟩ = false := frozen_heap hr
    have f2 : w1.frozen? ⟨w.heap.size, 2, none⟩ = false := frozen_heap hr
    have f3 : w1.frozen? ⟨w.heap.size, 3, none⟩ = false := frozen_heap hr
    clear hr hb3 hb2 hq CK
    go_wp2
    (try simp only [Exit.inBlock, Exit.then])
    refine bodyPost_ret (v := .tuple #[rng none none, .bool false]) ?_ rfl ⟨.inl ⟨HQ.out, rfl⟩, HF.out⟩
    rw [results_cell_tmp rfl]
    go_simp
  · have hb3 := HB1.out.trans (hb2.mono (by simp))
    have hr : w1.heap[w.heap.size]? = some (.cells #[.pointer none, .pointer none, .bool false, .int .i64 0] 27) := (hb2.block _ (by simp)).trans HR1.out
    have HQ : Hid (kLow p.isNone P (opt a A) x = some L) := hq
    have HF : Hid (AtB _ _ _ _ ∧ AtB _ _ _ _ ∧ Below w.heap.size w _) := ⟨four_at lp up hr h1, four_at lp up hr h2, four_below lp up hb3 (Nat.le_refl _)⟩
    have r0 : w1.cell? ⟨w.heap.size, 0, none⟩ = some (.pointer none) := cell_heap hr
    have r1 : w1.cell? ⟨w.heap.size, 1, none⟩ = some (.pointer none) := cell_heap hr
    have r2 : w1.cell? ⟨w.heap.size, 2, none⟩ = some (.bool false) := cell_heap hr
    have r3 : w1.cell? ⟨w.heap.size, 3, none⟩ = some (.int .i64 0) := cell_heap hr
    have f0 : w1.frozen? ⟨w.heap.size, 0, none⟩ = false := frozen_heap hr
    have f1 : w1.frozen? ⟨w.heap.size, 1, none⟩ = false := frozen_heap hr
    have f2 : w1.frozen? ⟨w.heap.size, 2, none⟩ = false := frozen_heap hr
    have f3 : w1.frozen? ⟨w.heap.size, 3, none⟩ = false := frozen_heap hr
    clear hr hb3 hb2 hq CK h1 h2
    go_wp2
    (try simp only [Exit.inBlock, Exit.then])
    refine bodyPost_ret (v := .tuple #[rng lp up, .bool true]) ?_ rfl ⟨.inr ⟨L, lp, up, HQ.out, rfl, HF.out.1, HF.out.2.1⟩, HF.out.2.2⟩
    rw [results_cell_tmp rfl]
    go_simp

/-! The plain law. -/
theorem low_law (pn : Bool) (P : List Int) (lo : Option (List Int)) (x : Bool) (K : List Int) (L : Option (List Int)) (hk : ∀ c ∈ K, c ≤ 255) (hpn : pn = true → P = []) (h : kLow pn P lo x = some L) : lowOK K L = adLow P lo x K := by
  cases lo with
  | none =>
    cases pn with
    | true =>
      have hP := hpn rfl
      subst hP
      simp only [kLow, if_true, Option.some.injEq] at h
      subst h
      have := cmp_nil K
      simp [lowOK, adLow, this]
    | false =>
      simp [kLow] at h
      subst h
      simp [lowOK, adLow]
  | some l =>
    cases x with
    | false =>
      simp [kLow] at h
      subst h
      simp [lowOK, adLow]
    | true =>
      simp only [kLow] at h
      cases hq : aft (P ++ l) with
      | none => rw [hq] at h; simp at h
      | some u =>
        rw [hq] at h
        simp at h
        subst h
        have hb := below_some _ _ hq K hk
        have he := pre_of_eq K (P ++ l)
        simp only [lowOK, adLow]
        rcases cmp_vals K (P ++ l) with hc | hc | hc <;> rw [hc] at hb he ⊢
        · simp at hb; simp [hb]
        · have he := he rfl
          rw [he] at hb ⊢
          simp at hb; simp [hb]
        · cases hp : pre K (P ++ l) <;> rw [hp] at hb <;> simp at hb <;> simp <;> omega
theorem up_law (pn : Bool) (P : List Int) (hi : Option (List Int)) (y : Bool) (K : List Int) (hk : ∀ c ∈ K, c ≤ 255) (hpn : pn = true → P = []) : upOK K (kUp pn P hi y) = adUp P hi y K := by
  have hc : ∀ Q, upOK K (aft Q) = (decide (cmp K Q < 0) || pre K Q) := by
    intro Q
    cases hq : aft Q with
    | none =>
      have := below_none Q hq K hk
      rcases this with h | h <;> simp [upOK, h]
    | some u =>
      have := below_some Q u hq K hk
      simp only [upOK]
      by_cases h1 : cmp K Q < 0 <;> cases h2 : pre K Q <;> simp [h1, h2] at this <;> simp [h1] <;> omega
  cases hi with
  | none =>
    cases pn with
    | true =>
      have hP := hpn rfl
      subst hP
      simp [kUp, upOK, adUp, pre_nil]
    | false => simp [kUp, adUp, hc]
  | some h =>
    cases y with
    | true => simp [kUp, upOK, adUp]
    | false => simp [kUp, adUp, hc]
end Go.Proofs.Qxb6000082a
