/-
  'Rows.FnCodeUnitValueOfHexDigitsSaid', proved. The frame is the guide's shell for this function; the walk is filled in by hand.
-/
import Derived.Test.Qxb6000017aRows
import Derived.WalkKit
import Derived.ProofKit
import Derived.OpenShut
import Derived.ShutString
import Derived.ChangeOld
import Derived.Below
import Derived.Test.Qxb6000017aUnit
namespace Go.Proofs.Qxb6000017a.fnCodeUnitValueOfHexDigits
open Go.ChangeShapes Go.WideShapes Go.ChangeAt Go.RowKit
open Go.ChangeMaps (open_string shut_string)
set_option linter.unusedVariables false

theorem own : ownKnob Try.prog.godebug = none := by kernel_rfl
theorem laidOut : laidOutB Try.prog = true := by kernel_rfl

/-- WHAT THE WALK IS TOLD OF A SLICE OF INTEGERS THAT CAME IN: it is nil; or it leads to a row of 'cap' cells, the numbers 'zs' (the first 'len' are its elements, the rest its spare room), each fitting its kind. -/
def IsRow (k : IntKind) (w : World) (a : Option Addr) (len cap : Nat) (zs : List Int) : Prop :=
  (a = none ∧ len = 0 ∧ cap = 0 ∧ zs = []) ∨
  ∃ x, a = some x ∧ len ≤ cap ∧ cap ≤ maxLen ∧ zs.length = cap ∧ (∀ i, i < zs.length → w.cell? (x.add i) = some (.int k (zs.getD i 0))) ∧ ∀ n ∈ zs, (Lit.int k n).wf = true

/-! ### STEP 1: THE WALK -/
theorem walk_long (a : Option Addr) (len cap : Nat) (w : World) (hl : 1048576 < len) (hm : len ≤ maxLen) :
    Calls Try.prog 3 #[.slice a len cap] w fun e w' => e = .returned (.bool true) ∧ Below w.heap.size w w' := by
  unfold maxLen at hm
  go_enter Try.func3, Try.ntmps3
  go_wp2
  go_ret
  exact ⟨rfl, Below.refl _ _⟩

theorem walk_short (a : Option Addr) (len cap : Nat) (w : World) (hl : len < 4) :
    Calls Try.prog 3 #[.slice a len cap] w fun e w' => e = .returned (.bool true) ∧ Below w.heap.size w w' := by
  go_enter Try.func3, Try.ntmps3
  go_wp2
  go_ret
  exact ⟨rfl, Below.refl _ _⟩

set_option maxHeartbeats 1000000 in
theorem walk_row (b off len cap : Nat) (zs : List Int) (w : World) (h4 : 4 ≤ len) (hm : len ≤ 1048576) (hlz : len ≤ zs.length) (hb : b < w.heap.size)
    (hc : ∀ j, j < len → w.cell? ⟨b, off + j, none⟩ = some (.int .u8 (zs.getD j 0))) :
    Calls Try.prog 3 #[.slice (some ⟨b, off, none⟩) len cap] w fun e w' => e = .returned (.bool true) ∧ Below w.heap.size w w' := by
  have CL := clone_row b off len cap zs w hlz hm hb hc
  clear hc
  go_enter Try.func3, Try.ntmps3
  go_wp2_with (first | (go_at_call 7; refine CL.mono ?_; rintro e w1 ⟨rfl, hown, hbel⟩) | go_in)
  have hcz : ∀ j, j < len → w1.cell? ⟨w.heap.size, j, none⟩ = some (.int .u8 (zs.getD j 0)) := by
    intro j hj
    rw [hown.cellAt j (by omega)]
    simp [hj, show j < zs.length by omega]
  clear hown CL
  go_loop [3, 4] (fun t i => ∃ k : Nat, k ≤ 4 ∧ i = .int .i64 k ∧ t = .int .i64 (hval (zs.take k)) ∧ ∀ j, j < k → 0 ≤ hexv (zs.getD j 0)) (fun _ i => 4 - (intOf i).toNat)
  case atStart => exact ⟨0, by omega, rfl, rfl, fun j h => by omega⟩
  case round =>
    obtain ⟨k, hk, rfl, rfl, hd⟩ := hrel
    have HD : Hid (∀ j, j < k → 0 ≤ hexv (zs.getD j 0)) := hd
    clear hd
    by_cases hlt : k < 4
    · have hcell := hcz k (by omega)
      have hb1 : 0 ≤ hval (zs.take k) := (hval_lt zs k hlt (by omega) HD.out).1
      have hb2 : hval (zs.take k) ≤ 4095 := (hval_lt zs k hlt (by omega) HD.out).2
      have hx := hexv_bd (zs[k]?.getD 0)
      have HS : Hid (hval (zs.take (k + 1)) = hval (zs.take k) * 16 + hexv (zs[k]?.getD 0)) := hval_succ zs k (by omega)
      clear hcz
      go_wp2_with (go_at_call 8; refine (hexDigit_any _ _).mono ?_; rintro e w2 ⟨rfl, rfl⟩)
      · go_ret
        exact ⟨rfl, hbel⟩
      · go_round
        case rel =>
          have hge : 0 ≤ hexv (zs[k]?.getD 0) := by assumption
          refine ⟨k + 1, by omega, by go_num, val_int HS.out.symm, fun j hj => ?_⟩
          by_cases e : j = k
          · subst e; rw [List.getD_eq_getElem?_getD]; exact hge
          · exact HD.out j (by omega)
        case measure => simp [intOf]; omega
    · have hk4 : k = 4 := by omega
      subst hk4
      have hb1 : 0 ≤ hval (zs.take 4) := (hval_lt4 zs (by omega) HD.out).1
      have hb2 : hval (zs.take 4) ≤ 65535 := (hval_lt4 zs (by omega) HD.out).2
      have CU := codeUnit_any w.heap.size 0 len len zs w1 h4 (Nat.le_refl _) (by omega) hlz (fun j hj => by rw [Nat.zero_add]; exact hcz j (by omega)) HD.out
      clear hcz
      go_wp2_with (first | (go_at_call 18; refine CU.mono ?_; rintro e w2 ⟨rfl, rfl⟩) | go_in)
      go_ret
      exact ⟨rfl, hbel⟩

theorem walk (a0 : Option Addr) (len0 cap0 : Nat) (z0 : List Int) (w : World) (w0 : IsRow .u8 w a0 len0 cap0 z0) :
    Calls Try.prog 3 #[.slice a0 len0 cap0] w fun e w' => e = .returned (.bool true) ∧ Below w.heap.size w w' := by
  rcases w0 with ⟨rfl, rfl, rfl, rfl⟩ | ⟨⟨b, off, sp⟩, rfl, hl, hm, hz, hcell, _⟩
  · exact walk_short none 0 0 w (by omega)
  · by_cases h1 : len0 < 4
    · exact walk_short _ _ _ w h1
    by_cases h2 : 1048576 < len0
    · exact walk_long _ _ _ w h2 (by omega)
    have hsp : sp = none := by simpa [Addr.add] using World.cell?_spot (hcell 0 (by omega))
    subst hsp
    have hc : ∀ j, j < len0 → w.cell? ⟨b, off + j, none⟩ = some (.int .u8 (z0.getD j 0)) := fun j hj => by rw [← add_plain]; exact hcell j (by omega)
    have hb : b < w.heap.size := block_lt_of_cell (hc 0 (by omega))
    exact walk_row b off len0 cap0 z0 w (by omega) (by omega) (by omega) hb hc

/-! ### THE ROW's STEP: WRITTEN OUT: LEAVE IT -/
set_option maxRecDepth 100000 in
theorem lifted (os : Os) (started : os.Started) (H : Type) (enc : TypeId × Value → H) :
    ReturnsInHanded {} Try.checked os 3 .any (Rows.fnCodeUnitValueOfHexDigitsSpec.pre6 enc Try.prog Try.f3 Rows.fnCodeUnitValueOfHexDigitsRow.domain false) (Rows.fnCodeUnitValueOfHexDigitsSpec.post enc Try.prog Try.f3 false true false false) := by
  refine returnsInHanded_of_change (C := Try.checked) own started (by kernel_rfl) Try.func3
    (ChangeSpec.witness6 (enc := enc) (C := Try.checked) false ⟨#[], #[.slice none 0 0], []⟩ 8 (by kernel_rfl) (by kernel_rfl) (by kernel_rfl) (by kernel_rfl)) ?_
  intro W base args ds gs before hval0 hW hcnd _
  have hval : ∀ (j : Nat) t v, Try.f3.params[j]? = some t → args[j]? = some v → Value.okWide Try.prog W .any base t v := hval0
  have hW' := hW
  obtain ⟨p, q, hA0, hV, rfl, hfz, hnd⟩ := hW
  have hA : DataW.TrodAll enc Try.prog W 0 (fun _ => true) true Try.f3.params.toList args.toList ds p := hA0
  rw [Try.params3] at hA hval
  obtain ⟨v0, vs0, d0, ds0, p0, q0, hargs, rfl, rfl, h0, r0⟩ := trodAll_cons hA
  obtain ⟨rfl, rfl, rfl⟩ := trodAll_nil r0
  obtain rfl : args = #[v0] := by cases args; simp_all
  obtain ⟨rfl, rfl⟩ := trodVars_none hV
  obtain ⟨a0, len0, cap0, rfl⟩ := okWide_slice Try.underlying22 (hval 0 22 v0 rfl rfl)
  have k0 := h0
  have lt0 : ∀ x ∈ p0, x.block < W.heap.size := by obtain ⟨m, hm⟩ := k0; exact DataW.trod_lt m _ _ _ hm
  obtain ⟨z0, w0⟩ : ∃ zs, IsRow .u8 W a0 len0 cap0 zs := by
    obtain ⟨fuel, hf⟩ := h0
    rcases open_ints Try.underlying22 Try.underlying5 (by kernel_rfl) hf with ⟨hcs, _⟩ | ⟨x, l, c, zs, hcs, _, hl, hm, hz, _, hcell, hwz⟩
    · simp [Value.cells] at hcs
      obtain ⟨rfl, rfl, rfl⟩ := hcs
      exact ⟨[], .inl ⟨rfl, rfl, rfl, rfl⟩⟩
    · simp [Value.cells] at hcs
      obtain ⟨rfl, rfl, rfl⟩ := hcs
      exact ⟨zs, .inr ⟨_, rfl, hl, hm, by simpa using hz, hcell, hwz⟩⟩
  clear hA0 hval0
  refine (walk a0 len0 cap0 z0 W w0).mono fun e W' ⟨he, bel⟩ => ?_
  subst he
  exact ⟨_, rfl, _, _, _, [], _, [], hW', trodAll_mk1 (shut_bool Try.underlying4 _), (trodAll_cons_mk (Below.trod laidOut (by kernel_rfl) (of_decide_eq_true (by kernel_rfl)) k0 bel lt0) trodAll_mk0), rfl, bel.frame _, fun h => by cases h⟩

theorem over : Rows.fnCodeUnitValueOfHexDigitsRow.holds Try.pinned (OpenSpec.ofChange Rows.fnCodeUnitValueOfHexDigitsSpec) :=
  OpenClaim.holds_of_wide 3 Try.f3 rfl rfl rfl rfl rfl rfl rfl ⟨rfl, rfl, rfl, rfl, rfl⟩ rfl rfl rfl rfl rfl (by kernel_rfl) Try.func3 (by kernel_rfl)
    (of_decide_eq_true (by kernel_rfl)) (by unfold Func.isWrapper; first | (rw [if_pos (by decide +kernel)]; kernel_rfl) | (rw [if_neg (by decide +kernel)]; exact ⟨rfl, rfl⟩))
    (fun os started H enc _ => lifted os started H enc)

/-- ████ THE STATEMENT ████ -/
theorem proved : Rows.FnCodeUnitValueOfHexDigitsSaid := over
#print axioms proved
end Go.Proofs.Qxb6000017a.fnCodeUnitValueOfHexDigits
