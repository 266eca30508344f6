import Derived.Test.Qxb6000082aSpan
namespace Go.Proofs.Qxb6000082a
open Go.RowKit

def SomeBool (e : Ending) : Prop := ∃ r, e = .returned (.bool r)

set_option maxRecDepth 20000 in
set_option maxHeartbeats 1000000 in
theorem bytes5 (a0 a1 a5 a6 : Option Addr) (l0 c0 l1 c1 l5 c5 l6 c6 : Nat) (x y n : Bool) (w : World) (h0 : l0 ≤ maxLen) (h1 : l1 ≤ maxLen) (h5 : l5 ≤ maxLen) (h6 : l6 ≤ maxLen) :
    Calls Try.prog 5 #[.slice a0 l0 c0, .slice a1 l1 c1, .bool x, .bool y, .bool n, .slice a5 l5 c5, .slice a6 l6 c6] w fun e w' => SomeBool e ∧ w = w' := by
  unfold maxLen at h0 h1 h5 h6
  go_enter Try.func5, Try.ntmps5
  go_wp2
  all_goals (go_ret; exact ⟨⟨_, rfl⟩, rfl⟩)

/-- A slice of bytes as it came in. -/
structure Src (w : World) (a : Option Addr) (len cap : Nat) (zs : List Int) : Prop where
  nil : a = none → len = 0 ∧ cap = 0
  fit : len ≤ zs.length
  max : len ≤ maxLen
  cell : ∀ x, a = some x → ∀ j, j < len → w.cell? (x.add j) = some (.int .u8 (zs.getD j 0))
  byte : ∀ b ∈ zs, 0 ≤ b ∧ b ≤ 255

theorem Src.clone {w wx : World} {a : Option Addr} {len cap : Nat} {zs : List Int} (h : Src w a len cap zs) (hb : Below w.heap.size w wx) (hm : len ≤ 1048576) :
    Calls Try.prog 6 #[.slice a len cap] wx fun e w' => ∃ ao A, e = .returned (.slice ao A.length A.length) ∧ Hid (A.length = len) ∧ Sl w' ao A A.length ∧ Below wx.heap.size wx w' := by
  refine (clone_gen a len cap zs wx h.nil h.fit hm (fun x hx j hj => (hb.cell (block_lt_of_cell (h.cell x hx j hj))).trans (h.cell x hx j hj)) h.byte).mono ?_
  rintro e w' ⟨ao, rfl, _, hs, hb'⟩
  exact ⟨ao, _, rfl, (by have := h.fit; simp; omega : (zs.take len).length = len), hs, hb'⟩

set_option maxRecDepth 20000 in
set_option maxHeartbeats 1500000 in
theorem main_any (a0 a1 a5 a6 : Option Addr) (l0 c0 l1 c1 l5 c5 l6 c6 : Nat) (z0 z1 z5 z6 : List Int) (x y n : Bool) (w : World) (h0 : Src w a0 l0 c0 z0) (h1 : Src w a1 l1 c1 z1) (h5 : Src w a5 l5 c5 z5) (h6 : Src w a6 l6 c6 z6) :
    Calls Try.prog 3 #[.slice a0 l0 c0, .slice a1 l1 c1, .bool x, .bool y, .bool n, .slice a5 l5 c5, .slice a6 l6 c6] w fun e w' => e = .returned (.bool true) ∧ Below w.heap.size w w' := by
  have BY := bytes5 a0 a1 a5 a6 l0 c0 l1 c1 l5 c5 l6 c6 x y n w h0.max h1.max h5.max h6.max
  have m0 := h0.max
  have m1 := h1.max
  have m5 := h5.max
  have m6 := h6.max
  unfold maxLen at m0 m1 m5 m6
  have H0 : Hid (Src w a0 l0 c0 z0) := h0
  have H1 : Hid (Src w a1 l1 c1 z1) := h1
  have H5 : Hid (Src w a5 l5 c5 z5) := h5
  have H6 : Hid (Src w a6 l6 c6 z6) := h6
  clear h0 h1 h5 h6
  go_enter Try.func3, Try.ntmps3
  go_wp2_with fail
  refine BY.mono ?_
  rintro e w' ⟨⟨r, rfl⟩, rfl⟩
  clear BY
  cases r with
  | false =>
    go_wp2
    go_ret
    exact ⟨rfl, Below.refl _ _⟩
  | true =>
  by_cases hsum : l0 + l1 + l5 + l6 ≤ 1048576
  · have g0 : l0 ≤ 1048576 := by omega
    have g1 : l1 ≤ 1048576 := by omega
    have g5 : l5 ≤ 1048576 := by omega
    have g6 : l6 ≤ 1048576 := by omega
    clear m0 m1 m5 m6
    go_wp2_with fail
    refine (H0.out.clone (Below.refl _ _) g0).mono ?_
    rintro e w1 ⟨b0, A, rfl, e0, s0, hb1⟩
    go_wp2_with fail
    refine (H1.out.clone hb1 g1).mono ?_
    rintro e w2 ⟨b1, B, rfl, e1, s1, hb2⟩
    have k2 := hb1.trans (hb2.mono hb1.size)
    go_wp2_with fail
    refine (H5.out.clone k2 g5).mono ?_
    rintro e w3 ⟨p, P, rfl, e5, s5, hb3⟩
    have k3 := k2.trans (hb3.mono k2.size)
    go_wp2_with fail
    refine (H6.out.clone k3 g6).mono ?_
    rintro e w4 ⟨k, K, rfl, e6, s6, hb4⟩
    have k4 := k3.trans (hb4.mono k3.size)
    have hPA : P.length + A.length ≤ 2097152 := by rw [e0.out, e5.out]; omega
    have hPB : P.length + B.length ≤ 2097152 := by rw [e1.out, e5.out]; omega
    have S6 : Hid (Sl w4 k K K.length) := s6
    have S5 : Hid (Sl w4 p P P.length) := s5.later hb4
    have S1 : Hid (Sl w4 b1 B B.length) := s1.later (hb3.trans (hb4.mono hb3.size))
    have S0 : Hid (Sl w4 b0 A A.length) := s0.later (hb2.trans ((hb3.trans (hb4.mono hb3.size)).mono hb2.size))
    have HPA : Hid (P.length + A.length ≤ 2097152) := hPA
    have HPB : Hid (P.length + B.length ≤ 2097152) := hPB
    have K4 : Hid (Below w.heap.size w w4) := k4
    have CS := span_any p b0 b1 P A B _ _ _ x y n w4 S5.out S0.out S1.out hPA hPB
    clear s0 s1 s5 s6 hb1 hb2 hb3 hb4 k2 k3 k4 e0 e1 e5 e6 hPA hPB hsum g0 g1 g5 g6 H0 H1 H5 H6
    have hn0 := fun (w : World) => run_neq_slice_nil_any (P := Try.prog) w 22 5 b0 A.length A.length 0 0 Try.underlying22
    have hq0 := fun (w : World) => Lib.run_eql_slice_nil (P := Try.prog) w 22 5 b0 A.length A.length 0 0 Try.underlying22
    have hq5 := fun (w : World) => Lib.run_eql_slice_nil (P := Try.prog) w 22 5 p P.length P.length 0 0 Try.underlying22
    go_wp2_with fail
    refine CS.mono ?_
    rintro e w5 ⟨hans, hb5⟩
    clear CS
    obtain ⟨R, lp, up, rfl, hR⟩ : ∃ (R : Bool) (lp up : Option Addr), e = .returned (.tuple #[rng lp up, .bool R]) ∧ (R = (kLow p.isNone P (opt b0 A) x).isSome) ∧ (R = false → lp = none ∧ up = none) ∧ (R = true → ∃ L, kLow p.isNone P (opt b0 A) x = some L ∧ AtB w5 lp L false ∧ AtB w5 up (kUp p.isNone P (opt b1 B) y) true) := by
      rcases hans with ⟨hq, rfl⟩ | ⟨L, lp, up, hq, rfl, t1, t2⟩
      · exact ⟨false, none, none, rfl, by rw [hq]; rfl, fun _ => ⟨rfl, rfl⟩, fun h => by cases h⟩
      · exact ⟨true, lp, up, rfl, by rw [hq]; rfl, fun h => (by cases h), fun _ => ⟨L, hq, t1, t2⟩⟩
    have HR1 : Hid (R = (kLow p.isNone P (opt b0 A) x).isSome) := hR.1
    have HR2 : Hid (R = false → lp = none ∧ up = none) := hR.2.1
    have HR3 : Hid (R = true → ∃ L, kLow p.isNone P (opt b0 A) x = some L ∧ AtB w5 lp L false ∧ AtB w5 up (kUp p.isNone P (opt b1 B) y) true) := hR.2.2
    have hb6 : Below w5.heap.size w5 (w5.alloc (.cells #[.pointer lp, .pointer up, .bool false, .int .i64 0] 27)) := (Below.refl _ _).alloc (Nat.le_refl _) _
    have B6 : Hid (Below w5.heap.size w5 (w5.alloc (.cells #[.pointer lp, .pointer up, .bool false, .int .i64 0] 27))) := hb6
    have K6 : Hid (Below w.heap.size w (w5.alloc (.cells #[.pointer lp, .pointer up, .bool false, .int .i64 0] 27))) := by
      have k5 := K4.out.trans (hb5.mono K4.out.size)
      exact k5.trans (hb6.mono k5.size)
    have hb46 := hb5.trans (hb6.mono hb5.size)
    have T0 : Hid (Sl _ b0 A A.length) := S0.out.later hb46
    have T1 : Hid (Sl _ b1 B B.length) := S1.out.later hb46
    have T5 : Hid (Sl _ p P P.length) := S5.out.later hb46
    have T6 : Hid (Sl _ k K K.length) := S6.out.later hb46
    clear S0 S1 S5 S6 K4 hb46 hb5 hb6 hR hans
    go_upto_region 12 with fail
    go_cut [17] (fun c wx => c = .bool R ∧ Below (w5.alloc (.cells #[.pointer lp, .pointer up, .bool false, .int .i64 0] 27)).heap.size (w5.alloc (.cells #[.pointer lp, .pointer up, .bool false, .int .i64 0] 27)) wx)
    case first =>
      clear hq0 hq5
      cases b0 with
      | none =>
        have hr : R = true := by rw [HR1.out]; cases p <;> cases x <;> rfl
        subst hr
        clear HR2 HR3 HR1
        go_wp2_with fail
        go_meet
        exact ⟨rfl, Below.refl _ _⟩
      | some b0 =>
        cases x with
        | false =>
          have hr : R = true := by rw [HR1.out]; rfl
          subst hr
          clear HR2 HR3 HR1
          go_wp2_with fail
          go_meet
          exact ⟨rfl, Below.refl _ _⟩
        | true =>
          have hr : R = !allFF (P ++ A) := by
            have hby : ∀ c ∈ P ++ A, c ≤ 255 := fun c hc => by
              rcases List.mem_append.1 hc with h | h
              · exact (T5.out.byte c h).2
              · exact (T0.out.byte c h).2
            have hn := aft_none (P ++ A) hby
            rw [HR1.out]
            simp only [kLow, opt, Option.map]
            cases hq : aft (P ++ A) with
            | none => rw [hn.1 hq]; rfl
            | some u =>
              cases hf : allFF (P ++ A) with
              | true => rw [hn.2 hf] at hq; cases hq
              | false => rfl
          have CC := concatB_any p (some b0) P A _ _ _ T5.out T0.out HPA.out
          clear HR2 HR3 HR1
          generalize P ++ A = Q at CC hr
          subst hr
          go_wp2_with fail
          refine CC.mono ?_
          rintro e w7 ⟨rfl, hs7, hb7⟩
          clear CC
          rw [show (w5.alloc (.cells #[.pointer lp, .pointer up, .bool false, .int .i64 0] 27)).heap.size = w5.heap.size + 1 from by simp] at hs7
          have CF := allFF_any _ Q _ w7 hs7
          have HB7 : Hid (Below _ _ w7) := hb7
          clear hs7 hb7
          go_wp2_with fail
          refine CF.mono ?_
          rintro e w8 ⟨rfl, rfl⟩
          clear CF
          go_wp2_with fail
          go_meet
          exact ⟨rfl, HB7.out⟩
    case rest =>
      obtain ⟨rfl, hb8⟩ := hcut
      have c0 : wc.cell? ⟨w5.heap.size, 0, none⟩ = some (.pointer lp) := (hb8.cell (by simp)).trans (by simp)
      have c1 : wc.cell? ⟨w5.heap.size, 1, none⟩ = some (.pointer up) := (hb8.cell (by simp)).trans (by simp)
      have c2 : wc.cell? ⟨w5.heap.size, 2, none⟩ = some (.bool false) := (hb8.cell (by simp)).trans (by simp)
      have c3 : wc.cell? ⟨w5.heap.size, 3, none⟩ = some (.int .i64 0) := (hb8.cell (by simp)).trans (by simp)
      have K8 : Hid (Below w.heap.size w wc) := K6.out.trans (hb8.mono K6.out.size)
      have HB8 : Hid (Below w5.heap.size w5 wc) := B6.out.trans (hb8.mono (by simp))
      have U0 : Hid (Sl wc b0 A A.length) := T0.out.later hb8
      have U1 : Hid (Sl wc b1 B B.length) := T1.out.later hb8
      have U5 : Hid (Sl wc p P P.length) := T5.out.later hb8
      have U6 : Hid (Sl wc k K K.length) := T6.out.later hb8
      clear hb8 T0 T1 T5 T6 K6 B6 hn0
      cases R with
      | false =>
        obtain ⟨rfl, rfl⟩ := HR2.out rfl
        clear HR1 HR2 HR3
        go_wp2_with fail
        refine (zeroRange_nil wc).mono ?_
        rintro e w9 ⟨rfl, hb9⟩
        go_wp2
        go_ret
        exact ⟨rfl, K8.out.trans (hb9.mono K8.out.size)⟩
      | true =>
        obtain ⟨L, hq, t1, t2⟩ := HR3.out rfl
        have v1 := t1.later HB8.out
        have v2 := t2.later HB8.out
        have hkb : ∀ c ∈ K, c ≤ 255 := fun c hc => (U6.out.byte c hc).2
        have hpn : p.isNone = true → P = [] := fun h => (U5.out.nil (by cases p <;> simp_all)).1
        have e1 := low_law _ P _ x K L hkb hpn hq
        have e2 := up_law p.isNone P (opt b1 B) y K hkb hpn
        have IR := inRange_any lp up L _ k K K.length wc v1 v2 U6.out
        rw [e1, e2] at IR
        have AD : ∀ wy, Below wc.heap.size wc wy → Calls Try.prog 12 #[.slice p P.length P.length, .slice b0 A.length A.length, .slice b1 B.length B.length, .bool x, .bool y, .slice k K.length K.length] wy fun e w' => e = .returned (.bool (adLow P (opt b0 A) x K && adUp P (opt b1 B) y K)) ∧ Below wy.heap.size wy w' := fun wy hy =>
          admits_any p b0 b1 k P A B K _ _ _ _ x y wy (U5.out.later hy) (U0.out.later hy) (U1.out.later hy) (U6.out.later hy) HPA.out HPB.out
        generalize (adLow P (opt b0 A) x K && adUp P (opt b1 B) y K) = r at IR AD
        have HIR : Hid (Calls Try.prog 11 _ wc _) := IR
        have HAD : Hid (∀ wy, Below wc.heap.size wc wy → Calls Try.prog 12 #[.slice p P.length P.length, .slice b0 A.length A.length, .slice b1 B.length B.length, .bool x, .bool y, .slice k K.length K.length] wy fun e w' => e = .returned (.bool r) ∧ Below wy.heap.size wy w') := AD
        clear e1 e2 IR AD t1 t2 HR1 HR2 HR3 hkb hpn U0 U1 U5 U6
        generalize kUp p.isNone P (opt b1 B) y = KU at v2
        obtain ⟨lpn, hlp⟩ : ∃ q : Bool, q = (b0.isNone && p.isNone) ∧ q = lp.isNone ∧ (q = false → ∃ g, lp = some ⟨g, 0, none⟩ ∧ wc.cell? ⟨g, 1, none⟩ = some (.bool false)) := by
          cases L with
          | none =>
            have hl : lp = none := v1
            subst hl
            refine ⟨true, ?_, rfl, fun h => by cases h⟩
            cases b0 <;> cases p <;> cases x <;> simp [kLow, opt] at hq <;> rfl
          | some u =>
            obtain ⟨g, o, c, rfl, _, hv, _⟩ := v1
            refine ⟨false, ?_, rfl, fun _ => ⟨g, rfl, hv⟩⟩
            cases b0 <;> cases p <;> cases x <;> simp [kLow, opt] at hq <;> rfl
        have hup : up = none ∨ ∃ g, up = some ⟨g, 0, none⟩ ∧ wc.cell? ⟨g, 1, none⟩ = some (.bool true) := by
          cases KU with
          | none => exact .inl v2
          | some u =>
            obtain ⟨g, o, c, rfl, _, hv, _⟩ := v2
            exact .inr ⟨g, rfl, hv⟩
        clear v1 v2 hq
        obtain ⟨hl1, hl2, hl3⟩ := hlp
        cases lpn with
        | true =>
          have hl : lp = none := Option.isNone_iff_eq_none.1 hl2.symm
          subst hl
          clear hl2 hl3
          cases b0 with
          | some b0 => simp at hl1
          | none =>
            cases p with
            | some p => simp at hl1
            | none =>
              clear hl1
              rcases hup with rfl | ⟨g, rfl, hg⟩
              all_goals
                go_wp2_with fail
                refine HIR.out.mono ?_
                rintro e w9 ⟨rfl, hb9⟩
                go_wp2_with fail
                refine (HAD.out w9 hb9).mono ?_
                rintro e w10 ⟨rfl, hb10⟩
                go_wp2
                go_ret
                have k9 := K8.out.trans (hb9.mono K8.out.size)
                exact ⟨by simp, k9.trans (hb10.mono k9.size)⟩
        | false =>
          obtain ⟨g0, rfl, hg0⟩ := hl3 rfl
          clear hl2 hl3
          cases b0 with
          | some b0 =>
            clear hl1
            rcases hup with rfl | ⟨g, rfl, hg⟩
            all_goals
                go_wp2_with fail
                refine HIR.out.mono ?_
                rintro e w9 ⟨rfl, hb9⟩
                go_wp2_with fail
                refine (HAD.out w9 hb9).mono ?_
                rintro e w10 ⟨rfl, hb10⟩
                go_wp2
                go_ret
                have k9 := K8.out.trans (hb9.mono K8.out.size)
                exact ⟨by simp, k9.trans (hb10.mono k9.size)⟩
          | none =>
            cases p with
            | none => simp at hl1
            | some p =>
              clear hl1
              rcases hup with rfl | ⟨g, rfl, hg⟩
              all_goals
                go_wp2_with fail
                refine HIR.out.mono ?_
                rintro e w9 ⟨rfl, hb9⟩
                go_wp2_with fail
                refine (HAD.out w9 hb9).mono ?_
                rintro e w10 ⟨rfl, hb10⟩
                go_wp2
                go_ret
                have k9 := K8.out.trans (hb9.mono K8.out.size)
                exact ⟨by simp, k9.trans (hb10.mono k9.size)⟩
  · by_cases g0 : l0 ≤ 1048576
    · by_cases g1 : l1 ≤ 1048576
      · by_cases g5 : l5 ≤ 1048576
        · by_cases g6 : l6 ≤ 1048576
          · go_wp2
            all_goals (go_ret; exact ⟨rfl, Below.refl _ _⟩)
          · go_wp2
            all_goals (go_ret; exact ⟨rfl, Below.refl _ _⟩)
        · go_wp2
          all_goals (go_ret; exact ⟨rfl, Below.refl _ _⟩)
      · go_wp2
        all_goals (go_ret; exact ⟨rfl, Below.refl _ _⟩)
    · go_wp2
      all_goals (go_ret; exact ⟨rfl, Below.refl _ _⟩)
end Go.Proofs.Qxb6000082a
