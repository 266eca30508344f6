import Derived.Test.Qxb6000082aClone
import Derived.Test.Qxb6000082aPlain
import Derived.Deep.QuietTactic
import Derived.BigQuiet
namespace Go.Proofs.Qxb6000082a
open Go.RowKit

/-- A slice of bytes that can be read: its address, its bytes, its capacity. -/
structure Sl (w : World) (a : Option Addr) (A : List Int) (cap : Nat) : Prop where
  nil : a = none → A = [] ∧ cap = 0
  fit : A.length ≤ cap
  cell : ∀ x, a = some x → ∀ j, j < A.length → w.cell? (x.add j) = some (.int .u8 (A.getD j 0))
  byte : ∀ b ∈ A, 0 ≤ b ∧ b ≤ 255
  small : A.length ≤ 2097152

theorem Sl.pos {w : World} {a : Option Addr} {A : List Int} {cap : Nat} (h : Sl w a A cap) (h0 : 0 < A.length) : ∃ b off, a = some ⟨b, off, none⟩ ∧ b < w.heap.size ∧ (∀ j, j < A.length → w.cell? ⟨b, off + j, none⟩ = some (.int .u8 (A.getD j 0))) := by
  cases a with
  | none => have := (h.nil rfl).1; rw [this] at h0; simp at h0
  | some x =>
    obtain ⟨b, off, sp⟩ := x
    have hsp : sp = none := by simpa [Addr.add] using World.cell?_spot (h.cell _ rfl 0 h0)
    subst hsp
    have hc : ∀ j, j < A.length → w.cell? ⟨b, off + j, none⟩ = some (.int .u8 (A.getD j 0)) := fun j hj => by have := h.cell _ rfl j hj; rwa [Addr.add_lit] at this
    exact ⟨b, off, rfl, block_lt_of_cell (hc 0 h0), hc⟩
theorem Sl.later {w w' : World} {a : Option Addr} {A : List Int} {cap : Nat} (h : Sl w a A cap) (hb : Below w.heap.size w w') : Sl w' a A cap :=
  ⟨h.nil, h.fit, fun x hx j hj => (hb.cell (block_lt_of_cell (h.cell x hx j hj))).trans (h.cell x hx j hj), h.byte, h.small⟩
theorem Sl.drew {w : World} {a : Option Addr} {A : List Int} {cap n : Nat} (h : Sl w a A cap) : Sl (w.drewN n) a A cap := ⟨h.nil, h.fit, h.cell, h.byte, h.small⟩

theorem ret_int {k : IntKind} {a b : Int} (h : a = b) : Ending.returned (.int k a) = .returned (.int k b) := by rw [h]
theorem ret_bool {a b : Bool} (h : a = b) : Ending.returned (.bool a) = .returned (.bool b) := by rw [h]
theorem drop_at (A : List Int) (k : Nat) (h : k < A.length) : A.drop k = A[k]?.getD 0 :: A.drop (k + 1) := by
  rw [List.drop_eq_getElem_cons h]; simp [List.getElem?_eq_getElem h]

theorem cmp_step (A B : List Int) (k : Nat) (hA : k < A.length) (hB : k < B.length) : cmp (A.drop k) (B.drop k) = if A[k]?.getD 0 < B[k]?.getD 0 then -1 else if B[k]?.getD 0 < A[k]?.getD 0 then 1 else cmp (A.drop (k + 1)) (B.drop (k + 1)) := by
  rw [drop_at A k hA, drop_at B k hB]; rfl
theorem pre_step (A B : List Int) (k : Nat) (hA : k < A.length) (hB : k < B.length) : pre (A.drop k) (B.drop k) = (A[k]?.getD 0 == B[k]?.getD 0 && pre (A.drop (k + 1)) (B.drop (k + 1))) := by
  rw [drop_at A k hA, drop_at B k hB]; rfl
theorem pre_short : ∀ (A B : List Int), A.length < B.length → pre A B = false
  | _, [], h => by simp at h
  | [], _ :: _, _ => rfl
  | a :: x, b :: y, h => by
    have := pre_short x y (by simpa using h)
    simp [pre, this]

set_option maxHeartbeats 1000000 in
theorem compare_any (a b : Option Addr) (A B : List Int) (ca cb : Nat) (w : World) (ha : Sl w a A ca) (hb : Sl w b B cb) :
    Calls Try.prog 20 #[.slice a A.length ca, .slice b B.length cb] w fun e w' => e = .returned (.int .i64 (cmp A B)) ∧ ∃ n, w' = w.drewN n := by
  have hA := ha.small
  have hB := hb.small
  have pa := ha.pos
  have pb := hb.pos
  clear ha hb
  generalize hla : A.length = la at *
  generalize hlb : B.length = lb at *
  have HLA : Hid (A.length = la) := hla
  have HLB : Hid (B.length = lb) := hlb
  clear hla hlb
  go_enter Try.func20, Try.ntmps20
  go_wp2
  go_loopw [5] (fun i wr => ∃ k : Nat, k ≤ la ∧ k ≤ lb ∧ i = .int .i64 k ∧ cmp A B = cmp (A.drop k) (B.drop k) ∧ ∃ n, wr = w.drewN n) (fun i _ => la - (intOf i).toNat)
  case atStart => exact ⟨0, by omega, by omega, rfl, rfl, 0, rfl⟩
  case round =>
    obtain ⟨k, hka, hkb, rfl, hE, n, rfl⟩ := hrel
    have HE : Hid (cmp A B = cmp (A.drop k) (B.drop k)) := hE
    clear hE
    by_cases h1 : k < la
    · by_cases h2 : k < lb
      · obtain ⟨ba, oa, rfl, _, cA⟩ := pa (by omega)
        obtain ⟨bb, ob, rfl, _, cB⟩ := pb (by omega)
        have gA := cA k (by omega)
        have gB := cB k (by omega)
        have h1' : (k : Int) < (la : Int) := by omega
        have h2' : (k : Int) < (lb : Int) := by omega
        have HS : Hid (cmp A B = if A[k]?.getD 0 < B[k]?.getD 0 then -1 else if B[k]?.getD 0 < A[k]?.getD 0 then 1 else cmp (A.drop (k + 1)) (B.drop (k + 1))) := by
          show cmp A B = if A[k]?.getD 0 < B[k]?.getD 0 then -1 else if B[k]?.getD 0 < A[k]?.getD 0 then 1 else cmp (A.drop (k + 1)) (B.drop (k + 1))
          rw [HE.out]; exact cmp_step A B k (by have := HLA.out; omega) (by have := HLB.out; omega)
        clear cA cB pa pb
        by_cases h3 : A[k]?.getD 0 < B[k]?.getD 0
        · have HV : Hid (cmp A B = -1) := HS.out.trans (if_pos h3)
          go_wp2
          go_quiet (fail)
          go_wp2
          go_ret
          exact ⟨ret_int HV.out.symm, by first | exact ⟨_, rfl⟩ | (simp only [World.drewN_drewN]; exact ⟨_, rfl⟩)⟩
        · by_cases h4 : B[k]?.getD 0 < A[k]?.getD 0
          · have HV : Hid (cmp A B = 1) := HS.out.trans ((if_neg h3).trans (if_pos h4))
            go_wp2
            go_quiet (fail)
            go_wp2
            go_quiet (fail)
            go_wp2
            go_ret
            exact ⟨ret_int HV.out.symm, by first | exact ⟨_, rfl⟩ | (simp only [World.drewN_drewN]; exact ⟨_, rfl⟩)⟩
          · have HV : Hid (cmp A B = cmp (A.drop (k + 1)) (B.drop (k + 1))) := HS.out.trans ((if_neg h3).trans (if_neg h4))
            go_wp2
            go_quiet (fail)
            go_wp2
            go_quiet (fail)
            go_wp2
            go_roundw
            case rel => exact ⟨k + 1, by omega, by omega, by go_num, HV.out, by first | exact ⟨_, rfl⟩ | (simp only [World.drewN_drewN]; exact ⟨_, rfl⟩)⟩
            case measure => simp [intOf]; omega
      · have HV : Hid (cmp A B = 1) := by
          show cmp A B = 1
          rw [HE.out, drop_at A k (by have := HLA.out; omega), List.drop_eq_nil_of_le (show B.length ≤ k by have := HLB.out; omega)]; rfl
        have h3 : lb < la := by omega
        clear pa pb
        go_wp2
        go_ret
        exact ⟨ret_int HV.out.symm, _, rfl⟩
    · clear pa pb
      by_cases h3 : la < lb
      · have HV : Hid (cmp A B = -1) := by
          show cmp A B = -1
          rw [HE.out, List.drop_eq_nil_of_le (show A.length ≤ k by have := HLA.out; omega), drop_at B k (by have := HLB.out; omega)]; rfl
        go_wp2
        go_ret
        exact ⟨ret_int HV.out.symm, _, rfl⟩
      · have HV : Hid (cmp A B = 0) := by
          show cmp A B = 0
          rw [HE.out, List.drop_eq_nil_of_le (show A.length ≤ k by have := HLA.out; omega), List.drop_eq_nil_of_le (show B.length ≤ k by have := HLB.out; omega)]; rfl
        go_wp2
        go_ret
        exact ⟨ret_int HV.out.symm, _, rfl⟩

set_option maxHeartbeats 1000000 in
theorem prefix_any (a b : Option Addr) (A B : List Int) (ca cb : Nat) (w : World) (ha : Sl w a A ca) (hb : Sl w b B cb) :
    Calls Try.prog 21 #[.slice a A.length ca, .slice b B.length cb] w fun e w' => e = .returned (.bool (pre A B)) ∧ ∃ n, w' = w.drewN n := by
  have hA := ha.small
  have hB := hb.small
  have pa := ha.pos
  have pb := hb.pos
  clear ha hb
  generalize hla : A.length = la at *
  generalize hlb : B.length = lb at *
  have HLA : Hid (A.length = la) := hla
  have HLB : Hid (B.length = lb) := hlb
  clear hla hlb
  by_cases hs : la < lb
  · have HV : Hid (pre A B = false) := pre_short A B (by have := HLA.out; have := HLB.out; omega)
    clear pa pb
    go_enter Try.func21, Try.ntmps21
    go_wp2
    go_ret
    exact ⟨ret_bool HV.out.symm, 0, rfl⟩
  go_enter Try.func21, Try.ntmps21
  go_wp2
  go_loopw [5] (fun i wr => ∃ k : Nat, k ≤ lb ∧ i = .int .i64 k ∧ pre A B = pre (A.drop k) (B.drop k) ∧ ∃ n, wr = w.drewN n) (fun i _ => lb - (intOf i).toNat)
  case atStart => exact ⟨0, by omega, rfl, rfl, 0, rfl⟩
  case round =>
    obtain ⟨k, hkb, rfl, hE, n, rfl⟩ := hrel
    have HE : Hid (pre A B = pre (A.drop k) (B.drop k)) := hE
    clear hE
    by_cases h2 : k < lb
    · obtain ⟨ba, oa, rfl, _, cA⟩ := pa (by omega)
      obtain ⟨bb, ob, rfl, _, cB⟩ := pb (by omega)
      have gA := cA k (by omega)
      have gB := cB k (by omega)
      have h1' : (k : Int) < (la : Int) := by omega
      have h2' : (k : Int) < (lb : Int) := by omega
      have HS : Hid (pre A B = (A[k]?.getD 0 == B[k]?.getD 0 && pre (A.drop (k + 1)) (B.drop (k + 1)))) := by
        show pre A B = (A[k]?.getD 0 == B[k]?.getD 0 && pre (A.drop (k + 1)) (B.drop (k + 1)))
        rw [HE.out]; exact pre_step A B k (by have := HLA.out; omega) (by have := HLB.out; omega)
      clear cA cB pa pb
      by_cases h3 : A[k]?.getD 0 = B[k]?.getD 0
      · have HT : Hid (pre A B = pre (A.drop (k + 1)) (B.drop (k + 1))) := by show pre A B = pre (A.drop (k + 1)) (B.drop (k + 1)); rw [HS.out, h3]; simp
        have h4 : (A[k]?.getD 0 != B[k]?.getD 0) = false := by simp [h3]
        have H3 : Hid (A[k]?.getD 0 = B[k]?.getD 0) := h3
        clear h3
        go_wp2
        go_quiet (fail)
        go_wp2
        go_roundw
        case rel => exact ⟨k + 1, by omega, by go_num, HT.out, by first | exact ⟨_, rfl⟩ | (simp only [World.drewN_drewN]; exact ⟨_, rfl⟩)⟩
        case measure => simp [intOf]; omega
      · have HT : Hid (pre A B = false) := by show pre A B = false; rw [HS.out]; simp [h3]
        have h4 : (A[k]?.getD 0 != B[k]?.getD 0) = true := by simp [h3]
        go_wp2
        go_quiet (fail)
        go_wp2
        go_ret
        exact ⟨ret_bool HT.out.symm, by first | exact ⟨_, rfl⟩ | (simp only [World.drewN_drewN]; exact ⟨_, rfl⟩)⟩
    · have HV : Hid (pre A B = true) := by
        show pre A B = true
        rw [HE.out, List.drop_eq_nil_of_le (show B.length ≤ k by have := HLB.out; omega)]; exact pre_nil _
      clear pa pb
      go_wp2
      go_ret
      exact ⟨ret_bool HV.out.symm, _, rfl⟩

set_option maxHeartbeats 1000000 in
theorem allFF_any (a : Option Addr) (A : List Int) (ca : Nat) (w : World) (ha : Sl w a A ca) :
    Calls Try.prog 8 #[.slice a A.length ca] w fun e w' => e = .returned (.bool (allFF A)) ∧ w = w' := by
  have hA := ha.small
  have pa := ha.pos
  clear ha
  generalize hla : A.length = la at *
  have HLA : Hid (A.length = la) := hla
  clear hla
  go_enter Try.func8, Try.ntmps8
  go_wp2
  go_loop [3] (fun i => ∃ k : Nat, k ≤ la ∧ i = .int .i64 k ∧ allFF A = allFF (A.drop k)) (fun i => la - (intOf i).toNat)
  case atStart => exact ⟨0, by omega, rfl, rfl⟩
  case round =>
    obtain ⟨k, hk, rfl, hE⟩ := hrel
    have HE : Hid (allFF A = allFF (A.drop k)) := hE
    clear hE
    by_cases h1 : k < la
    · obtain ⟨ba, oa, rfl, _, cA⟩ := pa (by omega)
      have gA := cA k (by omega)
      have HS : Hid (allFF A = (A[k]?.getD 0 == 255 && allFF (A.drop (k + 1)))) := by
        show allFF A = (A[k]?.getD 0 == 255 && allFF (A.drop (k + 1)))
        rw [HE.out, drop_at A k (by have := HLA.out; omega)]; rfl
      clear cA pa
      by_cases h3 : A[k]?.getD 0 = 255
      · have HT : Hid (allFF A = allFF (A.drop (k + 1))) := by show allFF A = allFF (A.drop (k + 1)); rw [HS.out, h3]; simp
        have h4 : (A[k]?.getD 0 != 255) = false := by simp [h3]
        clear h3
        go_wp2
        go_round
        case rel => exact ⟨k + 1, by omega, by go_num, HT.out⟩
        case measure => simp [intOf]; omega
      · have HT : Hid (allFF A = false) := by show allFF A = false; rw [HS.out]; simp [h3]
        have h4 : (A[k]?.getD 0 != 255) = true := by simp [h3]
        go_wp2
        go_ret
        exact ⟨ret_bool HT.out.symm, rfl⟩
    · have HV : Hid (allFF A = true) := by
        show allFF A = true
        rw [HE.out, List.drop_eq_nil_of_le (show A.length ≤ k by have := HLA.out; omega)]; rfl
      clear pa
      go_wp2
      go_ret
      exact ⟨ret_bool HV.out.symm, rfl⟩
end Go.Proofs.Qxb6000082a
