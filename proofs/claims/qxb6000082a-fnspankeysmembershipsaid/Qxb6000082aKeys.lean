import Derived.Test.Qxb6000082aMid
import Derived.WalkSpells
import Derived.Laws.ResultCell
import Derived.Deep.CutBlock
namespace Go.Proofs.Qxb6000082a
open Go.RowKit

def kLow (pn : Bool) (P : List Int) (lo : Option (List Int)) (x : Bool) : Option (Option (List Int)) :=
  match lo, x with
  | some l, true => (aft (P ++ l)).map some
  | some l, false => some (some (P ++ l))
  | none, _ => if pn then some none else some (some P)
def kUp (pn : Bool) (P : List Int) (hi : Option (List Int)) (y : Bool) : Option (List Int) :=
  match hi, y with
  | some h, true => some (P ++ h)
  | some h, false => aft (P ++ h)
  | none, _ => if pn then none else aft P

/-- slices.Concat(prefix, x), its two slices in a new block. -/
theorem concat_at {w wx : World} {p a : Option Addr} {P A : List Int} {cp ca : Nat} (hp : Sl w p P cp) (ha : Sl w a A ca) (hPA : P.length + A.length ≤ 2097152) (hb : Below w.heap.size w wx) (g : Nat) (hg : g = wx.heap.size) :
    Calls Try.prog 24 #[.slice (some ⟨g, 0, none⟩) 2 2] (wx.alloc (.cells #[.slice p P.length cp, .slice a A.length ca] 22)) fun e w' => ∃ o G, e = .returned (.slice o (P ++ A).length G) ∧ Sl w' o (P ++ A) G ∧ Below wx.heap.size wx w' := by
  subst hg
  have hb1 : Below wx.heap.size wx (wx.alloc (.cells #[.slice p P.length cp, .slice a A.length ca] 22)) := (Below.refl _ _).alloc (Nat.le_refl _) _
  have hb2 := hb.trans (hb1.mono hb.size)
  refine (concat_any wx.heap.size p a P A cp ca _ (hp.later hb2) (ha.later hb2) hPA (by simp) (by simp)).mono ?_
  rintro e w' ⟨o, G, rfl, hs, hb3⟩
  exact ⟨o, G, rfl, hs, hb1.trans (hb3.mono (by simp))⟩

set_option maxRecDepth 20000 in
set_option maxHeartbeats 3000000 in
theorem keys_any (p a b : Option Addr) (P A B : List Int) (cp ca cb : Nat) (x y n : Bool) (w : World) (hp : Sl w p P cp) (ha : Sl w a A ca) (hb : Sl w b B cb) (hPA : P.length + A.length ≤ 2097152) (hPB : P.length + B.length ≤ 2097152) :
    Calls Try.prog 19 #[.agg #[.slice a A.length ca, .slice b B.length cb, .bool x, .bool y, .bool n], .slice p P.length cp] w fun e w' =>
      (kLow p.isNone P (opt a A) x = none ∧ e = .returned (.tuple #[rng none none, .bool false]) ∨
        ∃ L lp up, kLow p.isNone P (opt a A) x = some L ∧ e = .returned (.tuple #[rng lp up, .bool true]) ∧ AtB w' lp L false ∧ AtB w' up (kUp p.isNone P (opt b B) y) true) ∧ Below w.heap.size w w' := by
  have hna := fun (w : World) => run_neq_slice_nil_any (P := Try.prog) w 22 5 a A.length ca 0 0 Try.underlying22
  have hnb := fun (w : World) => run_neq_slice_nil_any (P := Try.prog) w 22 5 b B.length cb 0 0 Try.underlying22
  have hnp := fun (w : World) => run_neq_slice_nil_any (P := Try.prog) w 22 5 p P.length cp 0 0 Try.underlying22
  have HP : Hid (Sl w p P cp) := hp
  have HA : Hid (Sl w a A ca) := ha
  have HB : Hid (Sl w b B cb) := hb
  have HPA : Hid (P.length + A.length ≤ 2097152) := hPA
  have HPB : Hid (P.length + B.length ≤ 2097152) := hPB
  clear hp ha hb hPA hPB
  generalize hlow : kLow p.isNone P (opt a A) x = KL
  generalize hup : kUp p.isNone P (opt b B) y = KU
  have HLOW : Hid (kLow p.isNone P (opt a A) x = KL) := hlow
  have HUP : Hid (kUp p.isNone P (opt b B) y = KU) := hup
  clear hlow hup
  go_enter Try.func19, Try.ntmps19
  go_upto_block 0 with fail
  go_cut [7] (fun _ wx => ∃ L lp, KL = some L ∧ AtB wx lp L false ∧ Mid w wx lp none a b A B ca cb x y n)
  case first =>
    clear hnb HUP
    cases a with
    | none =>
      have eA := (HA.out.nil rfl).1
      cases p with
      | none =>
        have hE := HLOW.out
        simp only [kLow, opt, Option.map, Option.isNone, if_true] at hE
        clear eA
        subst hE
        go_wp2_with fail
        go_meet
        exact ⟨none, none, rfl, rfl, mid0 w none b A B ca cb x y n⟩
      | some p =>
        have hE := HLOW.out
        simp only [kLow, opt, Option.map, Option.isNone, Bool.false_eq_true, if_false] at hE
        subst hE
        have M3 := mid0 w none b A B ca cb x y n
        have CC := concat_at HP.out HA.out HPA.out M3.bel (w.heap.size + 1 + 1 + 1) (by simp)
        rw [eA, List.append_nil, ← eA] at CC
        clear eA
        go_wp2_with fail
        refine CC.mono ?_
        rintro e w5 ⟨o, G, rfl, hs, hb5⟩
        clear CC
        have M5 := M3.later hb5
        have c0 : w5.cell? ⟨w.heap.size + 1 + 1, 0, none⟩ = some (.pointer none) := cell_heap M5.r
        have f0 : w5.frozen? ⟨w.heap.size + 1 + 1, 0, none⟩ = false := frozen_heap M5.r
        have s5 := M5.size
        have FIN := M5.low hs false
        have HM : Hid (AtB _ _ _ _ ∧ Mid _ _ _ _ _ _ _ _ _ _ _ _ _) := FIN
        clear M3 M5 hs hb5 FIN
        go_wp2_with fail
        go_meet
        exact ⟨some P, _, rfl, HM.out.1, HM.out.2⟩
    | some a =>
      have M3 := mid0 w (some a) b A B ca cb x y n
      have CC := concat_at HP.out HA.out HPA.out M3.bel (w.heap.size + 1 + 1 + 1) (by simp)
      have hE := HLOW.out
      cases x with
      | false =>
        simp only [kLow, opt, Option.map] at hE
        generalize P ++ A = Q at CC hE
        subst hE
        go_wp2_with fail
        refine CC.mono ?_
        rintro e w5 ⟨o, G, rfl, hs, hb5⟩
        clear CC
        have M5 := M3.later hb5
        have c0 : w5.cell? ⟨w.heap.size + 1 + 1, 0, none⟩ = some (.pointer none) := cell_heap M5.r
        have f0 : w5.frozen? ⟨w.heap.size + 1 + 1, 0, none⟩ = false := frozen_heap M5.r
        have s5 := M5.size
        have FIN := M5.low hs false
        have HM : Hid (AtB _ _ _ _ ∧ Mid _ _ _ _ _ _ _ _ _ _ _ _ _) := FIN
        clear M3 M5 hs hb5 FIN
        go_wp2_with fail
        go_meet
        exact ⟨some Q, _, rfl, HM.out.1, HM.out.2⟩
      | true =>
        simp only [kLow, opt, Option.map] at hE
        generalize P ++ A = Q at CC hE
        have HE : Hid ((match aft Q with | none => none | some u => some (some u)) = KL) := by
          rw [← hE]; cases aft Q <;> rfl
        clear hE
        go_wp2_with fail
        refine CC.mono ?_
        rintro e w5 ⟨o, G, rfl, hs, hb5⟩
        clear CC
        have M5 := M3.later hb5
        have CA := after_any o Q G w5 hs
        clear M3
        have HM5 : Hid (Mid _ _ _ _ _ _ _ _ _ _ _ _ _) := M5
        clear M5 hs hb5
        go_wp2_with fail
        refine CA.mono ?_
        rintro e w6 ⟨⟨hq, rfl⟩ | ⟨u, g, cap, hq, rfl, hs6⟩, hb6⟩
        · have M6 := HM5.out.later hb6
          have hE := HE.out
          rw [hq] at hE
          have r0 : w6.cell? ⟨w.heap.size + 1, 0, none⟩ = some (.pointer none) := cell_heap M6.res
          have r1 : w6.cell? ⟨w.heap.size + 1, 1, none⟩ = some (.pointer none) := cell_heap M6.res
          have r2 : w6.cell? ⟨w.heap.size + 1, 2, none⟩ = some (.bool false) := cell_heap M6.res
          have r3 : w6.cell? ⟨w.heap.size + 1, 3, none⟩ = some (.int .i64 0) := cell_heap M6.res
          have f0 : w6.frozen? ⟨w.heap.size + 1, 0, none⟩ = false := frozen_heap M6.res
          have f1 : w6.frozen? ⟨w.heap.size + 1, 1, none⟩ = false := frozen_heap M6.res
          have f2 : w6.frozen? ⟨w.heap.size + 1, 2, none⟩ = false := frozen_heap M6.res
          have f3 : w6.frozen? ⟨w.heap.size + 1, 3, none⟩ = false := frozen_heap M6.res
          have HM6 : Hid (Mid _ _ _ _ _ _ _ _ _ _ _ _ _) := M6
          have HKL : Hid (none = KL) := hE
          clear M6 hE hq hb6 CA
          go_wp2
          (try simp only [Exit.inBlock, Exit.then])
          refine bodyPost_ret (v := .tuple #[rng none none, .bool false]) ?_ rfl ⟨.inl ⟨HKL.out.symm, rfl⟩, four_below none none HM6.out.bel (by omega)⟩
          rw [results_cell_tmp rfl]
          go_simp
        · have M6 := HM5.out.later hb6
          have hE := HE.out
          rw [hq] at hE
          have c0 : w6.cell? ⟨w.heap.size + 1 + 1, 0, none⟩ = some (.pointer none) := cell_heap M6.r
          have f0 : w6.frozen? ⟨w.heap.size + 1 + 1, 0, none⟩ = false := frozen_heap M6.r
          have s5 := M6.size
          have FIN := M6.low hs6 false
          have HM : Hid (AtB _ _ _ _ ∧ Mid _ _ _ _ _ _ _ _ _ _ _ _ _) := FIN
          have HKL : Hid (some (some u) = KL) := hE
          clear M6 hE hq hb6 hs6 CA FIN
          go_wp2_with fail
          go_meet
          exact ⟨some u, _, HKL.out.symm, HM.out.1, HM.out.2⟩
  case rest =>
    obtain ⟨L, lp, hKL, hAt, hM⟩ := hcut
    have HKL : Hid (KL = some L) := hKL
    have HAT : Hid (AtB wc lp L false) := hAt
    have HM : Hid (Mid w wc lp none a b A B ca cb x y n) := hM
    have c1 : wc.cell? ⟨w.heap.size, 1, none⟩ = some (.slice b B.length cb) := cell_heap hM.sp
    have c3 : wc.cell? ⟨w.heap.size, 3, none⟩ = some (.bool y) := cell_heap hM.sp
    have hsz := hM.size
    clear hKL hAt hM hna HLOW
    go_upto_block 1 with fail
    go_cut [9] (fun _ wx => ∃ up, AtB wx lp L false ∧ AtB wx up KU true ∧ Mid w wx lp up a b A B ca cb x y n)
    case first =>
      cases b with
      | none =>
        have eB := (HB.out.nil rfl).1
        cases p with
        | none =>
          have hE := HUP.out
          simp only [kUp, opt, Option.map, Option.isNone, if_true] at hE
          clear eB
          subst hE
          go_wp2_with fail
          go_meet
          exact ⟨none, HAT.out, rfl, HM.out⟩
        | some p =>
          have hE := HUP.out
          simp only [kUp, opt, Option.map, Option.isNone, Bool.false_eq_true, if_false] at hE
          have CC := concat_at HP.out HB.out HPB.out HM.out.bel wc.heap.size rfl
          rw [eB, List.append_nil, ← eB] at CC
          clear eB
          have HE : Hid (aft P = KU) := hE
          clear hE
          go_wp2_with fail
          refine CC.mono ?_
          rintro e w5 ⟨o, G, rfl, hs, hb5⟩
          clear CC
          have HM5 : Hid (Mid _ _ _ _ _ _ _ _ _ _ _ _ _) := HM.out.later hb5
          have HA5 : Hid (AtB _ _ _ _) := HAT.out.later hb5
          have CA := after_any o P G w5 hs
          clear hs hb5
          go_wp2_with fail
          refine CA.mono ?_
          rintro e w6 ⟨⟨hq, rfl⟩ | ⟨u, g, cap, hq, rfl, hs6⟩, hb6⟩
          · have hE : none = KU := hq.symm.trans HE.out
            have HF : Hid (AtB _ _ _ _ ∧ Mid _ _ _ _ _ _ _ _ _ _ _ _ _) := ⟨HA5.out.later hb6, HM5.out.later hb6⟩
            clear hq hb6 CA
            subst hE
            go_wp2_with fail
            go_meet
            exact ⟨none, HF.out.1, rfl, HF.out.2⟩
          · have hE : some u = KU := hq.symm.trans HE.out
            have M6 := HM5.out.later hb6
            have c0 : w6.cell? ⟨w.heap.size + 1 + 1, 1, none⟩ = some (.pointer none) := cell_heap M6.r
            have f0 : w6.frozen? ⟨w.heap.size + 1 + 1, 1, none⟩ = false := frozen_heap M6.r
            have s5 := M6.size
            have FIN := M6.upp (HA5.out.later hb6) hs6 true
            have HF : Hid (AtB _ _ _ _ ∧ AtB _ _ _ _ ∧ Mid _ _ _ _ _ _ _ _ _ _ _ _ _) := FIN
            clear M6 hq hb6 hs6 CA FIN
            subst hE
            go_wp2_with fail
            go_meet
            exact ⟨_, HF.out.2.1, HF.out.1, HF.out.2.2⟩
      | some b =>
        have CC := concat_at HP.out HB.out HPB.out HM.out.bel wc.heap.size rfl
        have hE := HUP.out
        cases y with
        | false =>
          simp only [kUp, opt, Option.map] at hE
          generalize P ++ B = Q at CC hE
          have HE : Hid (aft Q = KU) := hE
          clear hE
          go_wp2_with fail
          refine CC.mono ?_
          rintro e w5 ⟨o, G, rfl, hs, hb5⟩
          clear CC
          have HM5 : Hid (Mid _ _ _ _ _ _ _ _ _ _ _ _ _) := HM.out.later hb5
          have HA5 : Hid (AtB _ _ _ _) := HAT.out.later hb5
          have CA := after_any o Q G w5 hs
          clear hs hb5
          go_wp2_with fail
          refine CA.mono ?_
          rintro e w6 ⟨⟨hq, rfl⟩ | ⟨u, g, cap, hq, rfl, hs6⟩, hb6⟩
          · have hE : none = KU := hq.symm.trans HE.out
            have HF : Hid (AtB _ _ _ _ ∧ Mid _ _ _ _ _ _ _ _ _ _ _ _ _) := ⟨HA5.out.later hb6, HM5.out.later hb6⟩
            clear hq hb6 CA
            subst hE
            go_wp2_with fail
            go_meet
            exact ⟨none, HF.out.1, rfl, HF.out.2⟩
          · have hE : some u = KU := hq.symm.trans HE.out
            have M6 := HM5.out.later hb6
            have c0 : w6.cell? ⟨w.heap.size + 1 + 1, 1, none⟩ = some (.pointer none) := cell_heap M6.r
            have f0 : w6.frozen? ⟨w.heap.size + 1 + 1, 1, none⟩ = false := frozen_heap M6.r
            have s5 := M6.size
            have FIN := M6.upp (HA5.out.later hb6) hs6 true
            have HF : Hid (AtB _ _ _ _ ∧ AtB _ _ _ _ ∧ Mid _ _ _ _ _ _ _ _ _ _ _ _ _) := FIN
            clear M6 hq hb6 hs6 CA FIN
            subst hE
            go_wp2_with fail
            go_meet
            exact ⟨_, HF.out.2.1, HF.out.1, HF.out.2.2⟩
        | true =>
          simp only [kUp, opt, Option.map] at hE
          generalize P ++ B = Q at CC hE
          subst hE
          go_wp2_with fail
          refine CC.mono ?_
          rintro e w5 ⟨o, G, rfl, hs, hb5⟩
          clear CC
          have M5 := HM.out.later hb5
          have c0 : w5.cell? ⟨w.heap.size + 1 + 1, 1, none⟩ = some (.pointer none) := cell_heap M5.r
          have f0 : w5.frozen? ⟨w.heap.size + 1 + 1, 1, none⟩ = false := frozen_heap M5.r
          have s5 := M5.size
          have FIN := M5.upp (HAT.out.later hb5) hs true
          have HF : Hid (AtB _ _ _ _ ∧ AtB _ _ _ _ ∧ Mid _ _ _ _ _ _ _ _ _ _ _ _ _) := FIN
          clear M5 hs hb5 FIN
          go_wp2_with fail
          go_meet
          exact ⟨_, HF.out.2.1, HF.out.1, HF.out.2.2⟩
    case rest =>
      obtain ⟨up, h1, h2, M⟩ := hcut
      have r0 : wc.cell? ⟨w.heap.size + 1, 0, none⟩ = some (.pointer none) := cell_heap M.res
      have r1 : wc.cell? ⟨w.heap.size + 1, 1, none⟩ = some (.pointer none) := cell_heap M.res
      have r2 : wc.cell? ⟨w.heap.size + 1, 2, none⟩ = some (.bool false) := cell_heap M.res
      have r3 : wc.cell? ⟨w.heap.size + 1, 3, none⟩ = some (.int .i64 0) := cell_heap M.res
      have f0 : wc.frozen? ⟨w.heap.size + 1, 0, none⟩ = false := frozen_heap M.res
      have f1 : wc.frozen? ⟨w.heap.size + 1, 1, none⟩ = false := frozen_heap M.res
      have f2 : wc.frozen? ⟨w.heap.size + 1, 2, none⟩ = false := frozen_heap M.res
      have f3 : wc.frozen? ⟨w.heap.size + 1, 3, none⟩ = false := frozen_heap M.res
      have q0 : wc.cell? ⟨w.heap.size + 1 + 1, 0, none⟩ = some (.pointer lp) := cell_heap M.r
      have q1 : wc.cell? ⟨w.heap.size + 1 + 1, 1, none⟩ = some (.pointer up) := cell_heap M.r
      have q2 : wc.cell? ⟨w.heap.size + 1 + 1, 2, none⟩ = some (.bool false) := cell_heap M.r
      have q3 : wc.cell? ⟨w.heap.size + 1 + 1, 3, none⟩ = some (.int .i64 0) := cell_heap M.r
      have HF : Hid (AtB _ _ _ _ ∧ AtB _ _ _ _ ∧ Below w.heap.size w _) := ⟨four_at lp up M.res h1, four_at lp up M.res h2, four_below lp up M.bel (Nat.le_succ _)⟩
      clear h1 h2 M
      go_wp2
      (try simp only [Exit.inBlock, Exit.then])
      refine bodyPost_ret (v := .tuple #[rng lp up, .bool true]) ?_ rfl ⟨.inr ⟨L, lp, up, HKL.out, rfl, HF.out.1, HF.out.2.1⟩, HF.out.2.2⟩
      rw [results_cell_tmp rfl]
      go_simp
end Go.Proofs.Qxb6000082a
