import Derived.Test.Qxb6000017aUnit
namespace Go.Proofs.Qxb6000017a
open Go.RowKit

/-- clone, whatever comes in. -/
theorem clone_gen (a : Option Addr) (len cap : Nat) (zs : List Int) (w : World) (hnil : a = none → len = 0 ∧ cap = 0) (hlz : len ≤ zs.length) (hm : len ≤ 1048576)
    (hc : ∀ x, a = some x → ∀ j, j < len → w.cell? (x.add j) = some (.int .u8 (zs.getD j 0))) :
    Calls Try.prog 7 #[.slice a len cap] w fun e w' => ∃ ao, e = .returned (.slice ao len len) ∧ (0 < len → ao = some ⟨w.heap.size, 0, none⟩ ∧ w.heap.size < w'.heap.size) ∧
      (∀ j, j < len → w'.cell? ⟨w.heap.size, j, none⟩ = some (.int .u8 (zs.getD j 0))) ∧ Below w.heap.size w w' := by
  cases a with
  | none =>
    obtain ⟨rfl, rfl⟩ := hnil rfl
    refine (clone_nil w).mono ?_
    rintro e w' ⟨rfl, rfl⟩
    exact ⟨none, rfl, fun h => by omega, fun j h => by omega, Below.refl _ _⟩
  | some x =>
    by_cases h0 : len = 0
    · subst h0
      refine (clone_empty x cap w).mono ?_
      rintro e w' ⟨rfl, _, hb⟩
      exact ⟨_, rfl, fun h => by omega, fun j h => by omega, hb⟩
    · obtain ⟨b, off, sp⟩ := x
      have hsp : sp = none := by simpa [Addr.add] using World.cell?_spot (hc _ rfl 0 (by omega))
      subst hsp
      have hc' : ∀ j, j < len → w.cell? ⟨b, off + j, none⟩ = some (.int .u8 (zs.getD j 0)) := fun j hj => by have := hc _ rfl j hj; rwa [Addr.add_lit] at this
      have hb : b < w.heap.size := block_lt_of_cell (hc' 0 (by omega))
      refine (clone_row b off len cap zs w hlz hm hb hc').mono ?_
      rintro e w' ⟨rfl, hown, hbel⟩
      have hcz : ∀ j, j < len → w'.cell? ⟨w.heap.size, j, none⟩ = some (.int .u8 (zs.getD j 0)) := by
        intro j hj
        rw [hown.cellAt j (by omega)]
        simp [hj, show j < zs.length by omega]
      exact ⟨_, rfl, fun _ => ⟨rfl, block_lt_of_cell (hcz 0 (by omega))⟩, hcz, hbel⟩

theorem wraps_i64 (n : Int) (h0 : 0 ≤ n) (h1 : n < 2 ^ 63) : IntKind.i64.wrap n = n := by
  simp [IntKind.wrap, IntKind.bits, IntKind.signed]
  split <;> omega
theorem and15 (x : Int) (h0 : 0 ≤ x) (h1 : x < 65536) : bits .and .i64 x 15 = x % 16 :=
  bits_mask .i64 63 (by decide) wraps_i64 4 (by decide) x h0 (by omega)

theorem hval_snoc (xs : List Int) (c : Int) : hval (xs ++ [c]) = hval xs * 16 + hexv c := by simp [hval, List.foldl_append]
theorem hexv_lo (n : Nat) (h : n < 16) : hexv (lo n) = n := (hexv_iff n h _).2 (.inl rfl)
theorem hexv_up (n : Nat) (h : n < 16) : hexv (up n) = n := (hexv_iff n h _).2 (.inr rfl)
theorem nib (y : Int) : ((y % 16).toNat : Int) = y % 16 ∧ (y % 16).toNat < 16 := by omega
theorem step_up (xs : List Int) (y z : Int) (h : hval xs = z) (hz : z = y / 16) : hval (xs ++ [up (y % 16).toNat]) = y := by
  rw [hval_snoc, h, hexv_up _ (nib y).2, (nib y).1]; omega
theorem step_lo (xs : List Int) (y z : Int) (h : hval xs = z) (hz : z = y / 16) : hval (xs ++ [lo (y % 16).toNat]) = y := by
  rw [hval_snoc, h, hexv_lo _ (nib y).2, (nib y).1]; omega
theorem all_up (xs : List Int) (y : Int) (h : ∀ x ∈ xs, 0 ≤ hexv x) : ∀ x ∈ xs ++ [up (y % 16).toNat], 0 ≤ hexv x := by
  intro x hx
  rcases List.mem_append.1 hx with hx | hx
  · exact h x hx
  · rw [List.mem_singleton.1 hx, hexv_up _ (nib y).2]; omega
theorem all_lo (xs : List Int) (y : Int) (h : ∀ x ∈ xs, 0 ≤ hexv x) : ∀ x ∈ xs ++ [lo (y % 16).toNat], 0 ≤ hexv x := by
  intro x hx
  rcases List.mem_append.1 hx with hx | hx
  · exact h x hx
  · rw [List.mem_singleton.1 hx, hexv_lo _ (nib y).2]; omega
/-- The four digits' quotients. -/
def quo (u : Int) (k : Nat) : Int := match k with | 0 => 0 | 1 => u / 4096 | 2 => u / 256 | 3 => u / 16 | _ => u

theorem snoc_take (xs zs : List Int) (k : Nat) (hk : k < zs.length) : (xs ++ zs.take (k + 1)).map (Value.int .u8) = (xs ++ zs.take k).map (Value.int .u8) ++ [.int .u8 (zs[k]?.getD 0)] := by
  rw [List.take_succ_eq_append_getElem hk, List.getElem?_eq_getElem hk, List.map_append, List.map_append, List.map_append, List.append_assoc]; rfl

theorem long_true (a : Option Addr) (u m : Int) (len cap : Nat) (w : World) (hl : 1048576 < len) (hm : len ≤ maxLen) :
    Calls Try.prog 4 #[.int .u16 u, .int .u8 m, .slice a len cap] w fun e w' => e = .returned (.bool true) ∧ Below w.heap.size w w' := by
  unfold maxLen at hm
  go_enter Try.func4, Try.ntmps4
  go_wp2
  go_ret
  exact ⟨rfl, Below.refl _ _⟩

set_option maxHeartbeats 1000000 in
theorem back_any (a : Option Addr) (u m : Int) (len cap : Nat) (zs : List Int) (w : World) (hu0 : 0 ≤ u) (hu1 : u ≤ 65535) (_hm0 : 0 ≤ m) (_hm1 : m ≤ 255) (hl : len ≤ 1048576) (hnil : a = none → len = 0 ∧ cap = 0) (hlz : len ≤ zs.length)
    (hc : ∀ x, a = some x → ∀ j, j < len → w.cell? (x.add j) = some (.int .u8 (zs.getD j 0))) :
    Calls Try.prog 4 #[.int .u16 u, .int .u8 m, .slice a len cap] w fun e w' => e = .returned (.bool true) ∧ Below w.heap.size w w' := by
  obtain ⟨i0, hi, hz0, hz1, hz2⟩ := info_parts Try.info5
  have CL := clone_gen a len cap zs w hnil hlz hl hc
  clear hc hnil
  go_enter Try.func4, Try.ntmps4
  go_wp2_with (first | (go_at_call 7; refine CL.mono ?_; rintro e w1 ⟨ao, rfl, hao, hcz, hbel⟩) | (at_make; refine wpList_make_own w1 rfl _ _ 22 rfl w1.heap.size 5 i0 (.int .u8 0) 1 Try.underlying22 hi hz0 hz1 _ _ _ (4 + len) rfl rfl (by omega) (by rw [hz2]; omega) (by unfold maxLen; omega) (Nat.le_refl _) ?_; intro w2 hown2 hgrow2) | go_in)
  go_loopw [7, 8, 9] (fun bf i _ wr => ∃ (k : Nat) (xs : List Int), k ≤ 4 ∧ i = .int .i64 k ∧ bf = .slice (some ⟨w1.heap.size, 0, none⟩) k (4 + len) ∧
      wr.ownsRow w1.heap.size 5 1 (.slice (some ⟨w1.heap.size, 0, none⟩) k (4 + len)) k (xs.map (Value.int .u8)) ∧ hval xs = quo u k ∧ (∀ x ∈ xs, 0 ≤ hexv x) ∧ Below w1.heap.size w1 wr) (fun _ i _ _ => 4 - (intOf i).toNat)
  case atStart => exact ⟨0, [], by omega, rfl, rfl, hown2, rfl, by simp, (Below.refl _ _).grown hgrow2 (Nat.le_refl _) (fun k h => by cases h)⟩
  case round =>
    obtain ⟨k, xs, hk, rfl, rfl, hown, hv, hxs, hbr⟩ := hrel
    clear hown2 hgrow2
    by_cases hlt : k < 4
    · have h16 : k = 0 ∨ k = 1 ∨ k = 2 ∨ k = 3 := by omega
      have hl := lo_at
      have hu := up_at
      have hA0 := and15 (u / 4096) (by omega) (by omega)
      have hA1 := and15 (u / 256) (by omega) (by omega)
      have hA2 := and15 (u / 16) (by omega) (by omega)
      have hA3 := and15 u (by omega) (by omega)
      have HV : Hid (hval xs = quo u k) := hv
      clear hv
      rcases h16 with rfl | rfl | rfl | rfl
      · go_wp2_with (first | (at_builtin; refine wpList_append_fits _ rfl (.tmp 43) (.tmp 46) 22 rfl w1.heap.size 5 i0 1 Try.underlying22 hi hz1 w1.heap.size 0 (4 + len) _ rfl (hown.alloc _) ⟨wr.heap.size, 0, none⟩ 1 1 [.int .u8 (up ((u / 4096) % 16).toNat)] rfl rfl (cell_one_new _ _ _) (by simp [Value.oneCell']) (by omega) ?_; intro w3 hown3 hgrow3) | (at_builtin; refine wpList_append_fits _ rfl (.tmp 48) (.tmp 51) 22 rfl w1.heap.size 5 i0 1 Try.underlying22 hi hz1 w1.heap.size 0 (4 + len) _ rfl (hown.alloc _) ⟨wr.heap.size, 0, none⟩ 1 1 [.int .u8 (lo ((u / 4096) % 16).toNat)] rfl rfl (cell_one_new _ _ _) (by simp [Value.oneCell']) (by omega) ?_; intro w3 hown3 hgrow3))
        · go_roundw
          case rel => exact ⟨1, xs ++ [up ((u / 4096) % 16).toNat], by omega, rfl, rfl, by simpa using hown3, step_up xs _ _ HV.out (by simp only [quo] <;> omega), all_up xs _ hxs, (hbr.alloc hbr.size _).grown hgrow3 (by simp; have := hbr.size; omega) (fun j h => by cases h; exact Nat.le_refl _)⟩
          case measure => simp [intOf]
        · go_roundw
          case rel => exact ⟨1, xs ++ [lo ((u / 4096) % 16).toNat], by omega, rfl, rfl, by simpa using hown3, step_lo xs _ _ HV.out (by simp only [quo] <;> omega), all_lo xs _ hxs, (hbr.alloc hbr.size _).grown hgrow3 (by simp; have := hbr.size; omega) (fun j h => by cases h; exact Nat.le_refl _)⟩
          case measure => simp [intOf]
      · go_wp2_with (first | (at_builtin; refine wpList_append_fits _ rfl (.tmp 43) (.tmp 46) 22 rfl w1.heap.size 5 i0 1 Try.underlying22 hi hz1 w1.heap.size 1 (4 + len) _ rfl (hown.alloc _) ⟨wr.heap.size, 0, none⟩ 1 1 [.int .u8 (up ((u / 256) % 16).toNat)] rfl rfl (cell_one_new _ _ _) (by simp [Value.oneCell']) (by omega) ?_; intro w3 hown3 hgrow3) | (at_builtin; refine wpList_append_fits _ rfl (.tmp 48) (.tmp 51) 22 rfl w1.heap.size 5 i0 1 Try.underlying22 hi hz1 w1.heap.size 1 (4 + len) _ rfl (hown.alloc _) ⟨wr.heap.size, 0, none⟩ 1 1 [.int .u8 (lo ((u / 256) % 16).toNat)] rfl rfl (cell_one_new _ _ _) (by simp [Value.oneCell']) (by omega) ?_; intro w3 hown3 hgrow3))
        · go_roundw
          case rel => exact ⟨2, xs ++ [up ((u / 256) % 16).toNat], by omega, rfl, rfl, by simpa using hown3, step_up xs _ _ HV.out (by simp only [quo] <;> omega), all_up xs _ hxs, (hbr.alloc hbr.size _).grown hgrow3 (by simp; have := hbr.size; omega) (fun j h => by cases h; exact Nat.le_refl _)⟩
          case measure => simp [intOf]
        · go_roundw
          case rel => exact ⟨2, xs ++ [lo ((u / 256) % 16).toNat], by omega, rfl, rfl, by simpa using hown3, step_lo xs _ _ HV.out (by simp only [quo] <;> omega), all_lo xs _ hxs, (hbr.alloc hbr.size _).grown hgrow3 (by simp; have := hbr.size; omega) (fun j h => by cases h; exact Nat.le_refl _)⟩
          case measure => simp [intOf]
      · go_wp2_with (first | (at_builtin; refine wpList_append_fits _ rfl (.tmp 43) (.tmp 46) 22 rfl w1.heap.size 5 i0 1 Try.underlying22 hi hz1 w1.heap.size 2 (4 + len) _ rfl (hown.alloc _) ⟨wr.heap.size, 0, none⟩ 1 1 [.int .u8 (up ((u / 16) % 16).toNat)] rfl rfl (cell_one_new _ _ _) (by simp [Value.oneCell']) (by omega) ?_; intro w3 hown3 hgrow3) | (at_builtin; refine wpList_append_fits _ rfl (.tmp 48) (.tmp 51) 22 rfl w1.heap.size 5 i0 1 Try.underlying22 hi hz1 w1.heap.size 2 (4 + len) _ rfl (hown.alloc _) ⟨wr.heap.size, 0, none⟩ 1 1 [.int .u8 (lo ((u / 16) % 16).toNat)] rfl rfl (cell_one_new _ _ _) (by simp [Value.oneCell']) (by omega) ?_; intro w3 hown3 hgrow3))
        · go_roundw
          case rel => exact ⟨3, xs ++ [up ((u / 16) % 16).toNat], by omega, rfl, rfl, by simpa using hown3, step_up xs _ _ HV.out (by simp only [quo] <;> omega), all_up xs _ hxs, (hbr.alloc hbr.size _).grown hgrow3 (by simp; have := hbr.size; omega) (fun j h => by cases h; exact Nat.le_refl _)⟩
          case measure => simp [intOf]
        · go_roundw
          case rel => exact ⟨3, xs ++ [lo ((u / 16) % 16).toNat], by omega, rfl, rfl, by simpa using hown3, step_lo xs _ _ HV.out (by simp only [quo] <;> omega), all_lo xs _ hxs, (hbr.alloc hbr.size _).grown hgrow3 (by simp; have := hbr.size; omega) (fun j h => by cases h; exact Nat.le_refl _)⟩
          case measure => simp [intOf]
      · go_wp2_with (first | (at_builtin; refine wpList_append_fits _ rfl (.tmp 43) (.tmp 46) 22 rfl w1.heap.size 5 i0 1 Try.underlying22 hi hz1 w1.heap.size 3 (4 + len) _ rfl (hown.alloc _) ⟨wr.heap.size, 0, none⟩ 1 1 [.int .u8 (up (u % 16).toNat)] rfl rfl (cell_one_new _ _ _) (by simp [Value.oneCell']) (by omega) ?_; intro w3 hown3 hgrow3) | (at_builtin; refine wpList_append_fits _ rfl (.tmp 48) (.tmp 51) 22 rfl w1.heap.size 5 i0 1 Try.underlying22 hi hz1 w1.heap.size 3 (4 + len) _ rfl (hown.alloc _) ⟨wr.heap.size, 0, none⟩ 1 1 [.int .u8 (lo (u % 16).toNat)] rfl rfl (cell_one_new _ _ _) (by simp [Value.oneCell']) (by omega) ?_; intro w3 hown3 hgrow3))
        · go_roundw
          case rel => exact ⟨4, xs ++ [up (u % 16).toNat], by omega, rfl, rfl, by simpa using hown3, step_up xs _ _ HV.out (by simp only [quo] <;> omega), all_up xs _ hxs, (hbr.alloc hbr.size _).grown hgrow3 (by simp; have := hbr.size; omega) (fun j h => by cases h; exact Nat.le_refl _)⟩
          case measure => simp [intOf]
        · go_roundw
          case rel => exact ⟨4, xs ++ [lo (u % 16).toNat], by omega, rfl, rfl, by simpa using hown3, step_lo xs _ _ HV.out (by simp only [quo] <;> omega), all_lo xs _ hxs, (hbr.alloc hbr.size _).grown hgrow3 (by simp; have := hbr.size; omega) (fun j h => by cases h; exact Nat.le_refl _)⟩
          case measure => simp [intOf]
    · have hk4 : k = 4 := by omega
      subst hk4
      have hx4 : xs.length = 4 := by simpa using hown.1
      have HX : Hid (xs.length = 4) := hx4
      have HV : Hid (hval xs = u) := hv
      clear hv hx4 CL
      go_wp2
      go_loopw [7, 10] (fun bf i wr => ∃ (k : Nat), k ≤ len ∧ i = .int .i64 k ∧ bf = .slice (some ⟨w1.heap.size, 0, none⟩) (4 + k) (4 + len) ∧
        wr.ownsRow w1.heap.size 5 1 (.slice (some ⟨w1.heap.size, 0, none⟩) (4 + k) (4 + len)) (4 + k) ((xs ++ zs.take k).map (Value.int .u8)) ∧ Below w1.heap.size w1 wr) (fun _ i _ => len - (intOf i).toNat)
      case atStart => exact ⟨0, by omega, rfl, rfl, by simpa using hown, hbr⟩
      case round =>
        obtain ⟨k, hk', rfl, rfl, hown', hbr'⟩ := hrel
        clear hown hbr
        by_cases hlt' : k < len
        · obtain ⟨rfl, hsz⟩ := hao (by omega)
          have hcell : wr.cell? ⟨w.heap.size, k, none⟩ = some (.int .u8 (zs.getD k 0)) := (hbr'.cell (by exact hsz)).trans (hcz k hlt')
          have hkz : k < zs.length := by omega
          have HT : Hid ((xs ++ zs.take (k + 1)).map (Value.int .u8) = (xs ++ zs.take k).map (Value.int .u8) ++ [.int .u8 (zs[k]?.getD 0)]) := snoc_take xs zs k hkz
          clear hcz hao hkz hlz
          go_wp2_with (at_builtin; refine wpList_append_fits _ rfl (.tmp 59) (.tmp 64) 22 rfl w1.heap.size 5 i0 1 Try.underlying22 hi hz1 w1.heap.size (4 + k) (4 + len) _ rfl (hown'.alloc _) ⟨wr.heap.size, 0, none⟩ 1 1 [.int .u8 (zs[k]?.getD 0)] rfl rfl (cell_one_new _ _ _) (by simp [Value.oneCell']) (by omega) ?_; intro w3 hown3 hgrow3)
          go_roundw
          case rel =>
            (repeat apply Exists.intro)
            exact ⟨⟨k + 1, by omega, by go_num, rfl, by rw [HT.out]; exact hown3, (hbr'.alloc hbr'.size _).grown hgrow3 (by simp; have := hbr'.size; omega) (fun j h => by cases h; exact Nat.le_refl _)⟩, rfl⟩
          case measure => simp [intOf]; omega
        · have hkl : k = len := by omega
          subst hkl
          have hY : ∀ j, j < 4 → (xs ++ zs.take k).getD j 0 = xs.getD j 0 := fun j hj => by simp [List.getD, List.getElem?_append_left (show j < xs.length by have := HX.out; omega)]
          have hD : ∀ j, j < 4 → 0 ≤ hexv ((xs ++ zs.take k).getD j 0) := by
            intro j hj
            have hjx : j < xs.length := by have := HX.out; omega
            rw [hY j hj, List.getD_eq_getElem?_getD, List.getElem?_eq_getElem hjx]
            exact hxs _ (List.getElem_mem hjx)
          have hZ : (xs ++ zs.take k).length = 4 + k := by have := HX.out; simp; omega
          have hTk : (xs ++ zs.take k).take 4 = xs := by rw [← HX.out]; simp
          have CU := codeUnit_any w1.heap.size 0 (4 + k) (4 + k) (xs ++ zs.take k) wr (by omega) (Nat.le_refl _) (by omega) (by omega) (fun j hj => by
            rw [Nat.zero_add, hown'.cellAt j (by omega)]
            have hjx : j < (xs ++ zs.take k).length := by omega
            rw [List.getElem?_map, List.getD_eq_getElem?_getD, List.getElem?_eq_getElem hjx]; rfl) hD
          rw [hTk, HV.out] at CU
          clear hcz hao hlz hY hD hZ hTk hown'
          go_wp2_with (first | (go_at_call 18; refine CU.mono ?_; rintro e w4 ⟨rfl, rfl⟩) | go_in)
          go_ret
          exact ⟨rfl, hbel.trans (hbr'.mono hbel.size)⟩
end Go.Proofs.Qxb6000017a
