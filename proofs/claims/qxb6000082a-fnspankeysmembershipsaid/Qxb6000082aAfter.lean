import Derived.Test.Qxb6000082aConcat2
import Derived.Lib.SmallJoins
namespace Go.Proofs.Qxb6000082a
open Go.RowKit

theorem aft_eq (P : List Int) : ∀ k, 0 < k → k ≤ P.length → (∀ b ∈ P, b ≤ 255) → allFF (P.drop k) = true → ¬ P[k - 1]?.getD 0 = 255 → aft P = some (P.take (k - 1) ++ [P[k - 1]?.getD 0 + 1]) := by
  induction P with
  | nil => intro k h0 hk; simp at hk; omega
  | cons b r ih =>
    intro k h0 hk hb hff hne
    have hb' : ∀ c ∈ r, c ≤ 255 := fun c hc => hb c (List.mem_cons_of_mem _ hc)
    by_cases h1 : k = 1
    · subst h1
      have hr : aft r = none := (aft_none r hb').2 (by simpa using hff)
      have hb5 : ¬ b = 255 := by simpa using hne
      simp [aft, hr, hb5]
    · obtain ⟨k', rfl⟩ : ∃ k', k = k' + 2 := ⟨k - 2, by omega⟩
      have hi := ih (k' + 1) (by omega) (by simpa using hk) hb' (by simpa using hff) (by simpa using hne)
      simp at hi
      simp [aft, hi]

/-- slices.Concat of two slices. -/
theorem concat_any (gs : Nat) (a b : Option Addr) (A B : List Int) (ca cb : Nat) (w : World) (ha : Sl w a A ca) (hb : Sl w b B cb) (hAB : A.length + B.length ≤ 2097152) (h0 : w.cell? ⟨gs, 0, none⟩ = some (.slice a A.length ca)) (h1 : w.cell? ⟨gs, 1, none⟩ = some (.slice b B.length cb)) :
    Calls Try.prog 24 #[.slice (some ⟨gs, 0, none⟩) 2 2] w fun e w' => ∃ o G, e = .returned (.slice o (A ++ B).length G) ∧ Sl w' o (A ++ B) G ∧ Below w.heap.size w w' := by
  have hby : ∀ c ∈ A ++ B, 0 ≤ c ∧ c ≤ 255 := fun c hc => by
    rcases List.mem_append.1 hc with h | h
    · exact ha.byte c h
    · exact hb.byte c h
  by_cases hp : 0 < A.length + B.length
  · refine (concat_pos gs a b A B ca cb w ha hb hAB hp h0 h1).mono ?_
    rintro e w' ⟨G, rfl, hown, hG, hbel⟩
    exact ⟨_, G, rfl, Sl.own hown hby (by rw [List.length_append]; exact hAB) hG, hbel⟩
  · have eA : A = [] := List.eq_nil_of_length_eq_zero (by omega)
    have eB : B = [] := List.eq_nil_of_length_eq_zero (by omega)
    subst eA; subst eB
    refine (concat_zero gs a b ca cb w h0 h1).mono ?_
    rintro e w' ⟨rfl, rfl⟩
    exact ⟨none, 0, rfl, ⟨fun _ => ⟨rfl, rfl⟩, Nat.le_refl _, fun x hx => (by cases hx), fun c hc => (by cases hc), by simp⟩, Below.refl _ _⟩

set_option maxHeartbeats 1000000 in
/-- slices.Clone of a slice that is not empty. -/
theorem sclone_any (b off n c : Nat) (A : List Int) (w : World) (hA : A.length = n) (h0 : 0 < n) (hn : n ≤ 2097152) (hc : ∀ j, j < n → w.cell? ⟨b, off + j, none⟩ = some (.int .u8 (A.getD j 0))) :
    Calls Try.prog 27 #[.slice (some ⟨b, off, none⟩) n c] w fun e w' => ∃ g cap, e = .returned (.slice (some ⟨g, 0, none⟩) n cap) ∧ w'.ownsRow w.heap.size 5 1 (.slice (some ⟨g, 0, none⟩) n cap) n (A.map (Value.int .u8)) ∧ Below w.heap.size w w' := by
  obtain ⟨i0, hi, hz0, hz1, hz2⟩ := info_parts Try.info5
  have hnq := fun (w : World) => Lib.run_eql_slice_nil (P := Try.prog) w 22 5 (some ⟨b, off, none⟩) n c 0 0 Try.underlying22
  go_enter Try.func27, Try.ntmps27
  go_wp2_with (at_builtin; refine wpList_append_own _ rfl _ _ 22 rfl w.heap.size 5 i0 (.int .u8 0) 1 1 Try.underlying22 hi hz0 hz1 hz2 rfl (by decide) _ 0 [] rfl ?own ⟨b, off, none⟩ n c (A.map (Value.int .u8)) rfl ?c0 ?c1 ?c2 ?c3 ?c4 ?c5 ?_)
  case own => exact World.ownsRow_made w #[] 0 (Nat.le_refl _) (by unfold maxLen; omega) rfl
  case c0 => simp [hA]
  case c1 =>
    intro j u hu
    have hj : j < A.length := by simpa using (List.getElem?_eq_some_iff.1 hu).1
    have h1 := hc j (by omega)
    rw [Addr.add_lit, World.cell?_alloc_lt _ _ _ (by exact block_lt_of_cell h1), h1]
    rw [List.getElem?_map, List.getElem?_eq_getElem hj] at hu
    rw [List.getD_eq_getElem?_getD, List.getElem?_eq_getElem hj]
    exact hu
  case c2 => exact list_one A
  case c3 => unfold maxLen; omega
  case c4 => omega
  case c5 => simp
  · intro v' w' hown hgrow _
    obtain ⟨g, cap, hv⟩ := Joins.ownsRow_form hown h0
    rw [hv] at hown ⊢
    have hbel : Below w.heap.size w w' := ((Below.refl _ _).alloc (Nat.le_refl _) _).grown hgrow (by simp) (fun k h => by cases h; exact Nat.le_refl _)
    clear hgrow
    go_wp2
    go_ret
    exact ⟨g, cap, rfl, hown, hbel⟩

theorem bytes_at {P : List Int} (h : ∀ b ∈ P, 0 ≤ b ∧ b ≤ 255) (j : Nat) (hj : j < P.length) : 0 ≤ P[j]?.getD 0 ∧ P[j]?.getD 0 ≤ 255 := by
  rw [List.getElem?_eq_getElem hj]; exact h _ (List.getElem_mem hj)
theorem ff_step (P : List Int) (k : Nat) (hk : k < P.length) (h : P[k]?.getD 0 = 255) (hf : allFF (P.drop (k + 1)) = true) : allFF (P.drop k) = true := by
  rw [drop_at P k hk, h]; simpa [allFF] using hf
/-- One byte stored into the clone. -/
theorem after_own {w' : World} {B g k cap : Nat} {P : List Int} {v : Int} (hk : k < P.length) (hown : w'.ownsRow B 5 1 (.slice (some ⟨g, 0, none⟩) (k + 1) cap) (k + 1) ((P.take (k + 1)).map (Value.int .u8))) :
    (w'.setCell ⟨g, k, none⟩ (.int .u8 v)).ownsRow B 5 1 (.slice (some ⟨g, 0, none⟩) (P.take k ++ [v]).length cap) (P.take k ++ [v]).length ((P.take k ++ [v]).map (Value.int .u8)) := by
  have hl : (P.take k ++ [v]).length = k + 1 := by simp; omega
  have h := (hown.stored k (.int .u8 v)).1
  rw [hl]
  have e : ((P.take (k + 1)).map (Value.int .u8)).set k (.int .u8 v) = (P.take k ++ [v]).map (Value.int .u8) := by
    have e2 : (List.map (Value.int .u8) (P.take k)).length = k := by simp; omega
    rw [List.take_succ_eq_append_getElem hk, List.map_append, List.set_append, if_neg (by rw [e2]; omega), e2, Nat.sub_self, List.map_append]
    rfl
  rw [e] at h
  exact h

set_option maxHeartbeats 2000000 in
theorem after_any (a : Option Addr) (P : List Int) (ca : Nat) (w : World) (ha : Sl w a P ca) :
    Calls Try.prog 23 #[.slice a P.length ca] w fun e w' => (aft P = none ∧ e = .returned (.tuple #[.slice none 0 0, .bool false]) ∨ ∃ u g cap, aft P = some u ∧ e = .returned (.tuple #[.slice (some ⟨g, 0, none⟩) u.length cap, .bool true]) ∧ Sl w' (some ⟨g, 0, none⟩) u cap) ∧ Below w.heap.size w w' := by
  have hs := ha.small
  have hfit := ha.fit
  have hby := ha.byte
  have pa := ha.pos
  clear ha
  have HBY : Hid (∀ b ∈ P, 0 ≤ b ∧ b ≤ 255) := hby
  generalize hla : P.length = la at *
  have HLA : Hid (P.length = la) := hla
  clear hla hby
  go_enter Try.func23, Try.ntmps23
  go_wp2
  go_loop [4] (fun i => ∃ k : Nat, k ≤ la ∧ i = .int .i64 k ∧ allFF (P.drop k) = true) (fun i => (intOf i).toNat)
  case atStart => exact ⟨la, Nat.le_refl _, rfl, by rw [List.drop_eq_nil_of_le (by rw [HLA.out]; exact Nat.le_refl _)]; rfl⟩
  case round =>
    obtain ⟨k, hk, rfl, hF⟩ := hrel
    have HF : Hid (allFF (P.drop k) = true) := hF
    clear hF
    by_cases h0 : k = 0
    · subst h0
      have HN : Hid (aft P = none) := (aft_none P (fun b hb => (HBY.out b hb).2)).2 HF.out
      clear pa
      go_wp2
      go_ret2
      exact ⟨.inl ⟨HN.out, rfl⟩, Below.refl _ _⟩
    · obtain ⟨k', rfl⟩ : ∃ k', k = k' + 1 := ⟨k - 1, by omega⟩
      obtain ⟨b, off, rfl, hbl, cA⟩ := pa (by omega)
      have gA := cA k' (by omega)
      have hk' : k' < P.length := by rw [HLA.out]; omega
      have ei : (((k' + 1 : Nat) : Int) - 1) = (k' : Int) := by omega
      by_cases h5 : P[k']?.getD 0 = 255
      · have HF' : Hid (allFF (P.drop k') = true) := ff_step P k' hk' h5 HF.out
        have h6 : (P[k']?.getD 0 == 255) = true := by simp [h5]
        clear h5 cA pa hk'
        go_wp2
        all_goals
          go_round
          case rel => exact ⟨k', by omega, rfl, HF'.out⟩
          case measure => simp [intOf]
      · have h6 : (P[k']?.getD 0 == 255) = false := by simp [h5]
        have HU : Hid (aft P = some (P.take k' ++ [P[k']?.getD 0 + 1])) := aft_eq P (k' + 1) (by omega) (by omega) (fun b hb => (HBY.out b hb).2) HF.out h5
        have hbd := bytes_at HBY.out k' hk'
        have hlt : P[k']?.getD 0 ≤ 254 := by omega
        have CL := sclone_any b off (k' + 1) ca (P.take (k' + 1)) w (by simp; omega) (by omega) (by omega) (fun j hj => by rw [cA j (by omega)]; simp [List.getD, hj])
        have HK : Hid (k' < P.length) := hk'
        clear cA pa hk'
        go_wp2_with fail
        refine CL.mono ?_
        rintro e w1 ⟨g, cap, rfl, hown, hb1⟩
        have hk' := HK.out
        have hcell : w1.cell? ⟨g, k', none⟩ = some (.int .u8 (P[k']?.getD 0)) := by
          rw [hown.cellAt k' (by omega), List.getElem?_map, List.getElem?_take, if_pos (by omega), List.getElem?_eq_getElem hk']; rfl
        have hfr : w1.frozen? ⟨g, k', none⟩ = false := hown.frozenAt k'
        have HO := after_own (v := P[k']?.getD 0 + 1) hk' hown
        have hgb := (hown.lt g rfl).1
        have hcap : k' + 1 ≤ cap := by
          rcases hown.2 with ⟨h, _⟩ | ⟨g2, cap2, cur, h, _, _, h2, _⟩
          · cases h
          · cases h; exact h2
        have hl : (P.take k' ++ [P[k']?.getD 0 + 1]).length = k' + 1 := by simp; omega
        have HL : Hid ((P.take k' ++ [P[k']?.getD 0 + 1]).length = k' + 1) := hl
        have HB' : Hid (∀ b ∈ P.take k' ++ [P[k']?.getD 0 + 1], 0 ≤ b ∧ b ≤ 255) := aft_bytes P _ HU.out HBY.out
        have HOO : Hid ((w1.setCell ⟨g, k', none⟩ (.int .u8 (P[k']?.getD 0 + 1))).ownsRow w.heap.size 5 1 (.slice (some ⟨g, 0, none⟩) (P.take k' ++ [P[k']?.getD 0 + 1]).length cap) (P.take k' ++ [P[k']?.getD 0 + 1]).length ((P.take k' ++ [P[k']?.getD 0 + 1]).map (Value.int .u8))) := HO
        clear CL hown HO hl h5 hk'
        go_wp2
        go_ret2
        exact ⟨.inr ⟨_, g, cap, HU.out, by rw [HL.out]; rfl, Sl.own HOO.out HB'.out (by rw [HL.out]; omega) (by rw [HL.out]; exact hcap)⟩, hb1.setCell hgb _⟩
end Go.Proofs.Qxb6000082a
