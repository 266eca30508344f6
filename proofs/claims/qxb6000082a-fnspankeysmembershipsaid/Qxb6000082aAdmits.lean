import Derived.Test.Qxb6000082aRange
namespace Go.Proofs.Qxb6000082a
open Go.RowKit

def opt (a : Option Addr) (A : List Int) : Option (List Int) := a.map (fun _ => A)
def adLow (P : List Int) (lo : Option (List Int)) (x : Bool) (K : List Int) : Bool :=
  match lo, x with
  | none, _ => decide (0 ≤ cmp K P)
  | some l, true => decide (0 < cmp K (P ++ l)) && !pre K (P ++ l)
  | some l, false => decide (0 ≤ cmp K (P ++ l))
def adUp (P : List Int) (hi : Option (List Int)) (y : Bool) (K : List Int) : Bool :=
  match hi, y with
  | none, _ => decide (cmp K P < 0) || pre K P
  | some h, true => decide (cmp K (P ++ h) < 0)
  | some h, false => decide (cmp K (P ++ h) < 0) || pre K (P ++ h)

set_option maxHeartbeats 1500000 in
theorem admits_any (p a b k : Option Addr) (P A B K : List Int) (cp ca cb ck : Nat) (x y : Bool) (w : World) (hp : Sl w p P cp) (ha : Sl w a A ca) (hb : Sl w b B cb) (hk : Sl w k K ck) (hPA : P.length + A.length ≤ 2097152) (hPB : P.length + B.length ≤ 2097152) :
    Calls Try.prog 12 #[.slice p P.length cp, .slice a A.length ca, .slice b B.length cb, .bool x, .bool y, .slice k K.length ck] w fun e w' => e = .returned (.bool (adLow P (opt a A) x K && adUp P (opt b B) y K)) ∧ Below w.heap.size w w' := by
  have hna := fun (w : World) => Lib.run_eql_slice_nil (P := Try.prog) w 22 5 a A.length ca 0 0 Try.underlying22
  have hnb := fun (w : World) => Lib.run_eql_slice_nil (P := Try.prog) w 22 5 b B.length cb 0 0 Try.underlying22
  have HP : Hid (Sl w p P cp) := hp
  have HA : Hid (Sl w a A ca) := ha
  have HB : Hid (Sl w b B cb) := hb
  have HK : Hid (Sl w k K ck) := hk
  have HPA : Hid (P.length + A.length ≤ 2097152) := hPA
  have HPB : Hid (P.length + B.length ≤ 2097152) := hPB
  clear hp ha hb hk hPA hPB
  generalize hlow : adLow P (opt a A) x K = low
  generalize hup : adUp P (opt b B) y K = up
  have HLOW : Hid (adLow P (opt a A) x K = low) := hlow
  have HUP : Hid (adUp P (opt b B) y K = up) := hup
  clear hlow hup
  go_enter Try.func12, Try.ntmps12
  go_upto_if 18 with fail
  go_cut [13] (fun c wx => c = .bool low ∧ Below w.heap.size w wx)
  case first =>
    clear hnb
    cases a with
    | none =>
      have CM := compare_any k p K P ck cp w HK.out HP.out
      have hE := HLOW.out
      simp only [adLow, opt, Option.map] at hE
      rcases cmp_vals K P with hc | hc | hc <;> rw [hc] at CM hE <;> clear hc
      all_goals
        simp at hE
        subst hE
        go_wp2_with fail
        refine CM.mono ?_
        rintro e w' ⟨rfl, n, rfl⟩
        clear CM
        go_wp2_with fail
        go_meet
        exact ⟨rfl, below_dr (Below.refl _ _) n⟩
    | some a =>
      have CC := concatB_any p (some a) P A cp ca w HP.out HA.out HPA.out
      have hE := HLOW.out
      simp only [adLow, opt, Option.map] at hE
      cases x with
      | false =>
        go_wp2_with fail
        refine CC.mono ?_
        rintro e w1 ⟨rfl, hs1, hb1⟩
        clear CC
        generalize P ++ A = Q at hs1 hE ⊢
        have CM := compare_any k _ K Q ck _ w1 (HK.out.later hb1) hs1
        rcases cmp_vals K Q with hc | hc | hc <;> rw [hc] at CM hE <;> clear hc
        all_goals
          simp at hE
          subst hE
          go_wp2_with fail
          refine CM.mono ?_
          rintro e w' ⟨rfl, n, rfl⟩
          clear CM
          go_wp2_with fail
          go_meet
          exact ⟨rfl, below_dr hb1 n⟩
      | true =>
        go_wp2_with fail
        refine CC.mono ?_
        rintro e w1 ⟨rfl, hs1, hb1⟩
        clear CC
        generalize P ++ A = Q at hs1 hE ⊢
        have CM := compare_any k _ K Q ck _ w1 (HK.out.later hb1) hs1
        have CP := fun n => prefix_any k _ K Q ck _ (w1.drewN n) (HK.out.later hb1).drew hs1.drew
        generalize pre K Q = pr at CP hE
        rcases cmp_vals K Q with hc | hc | hc <;> rw [hc] at CM hE <;> clear hc
        · simp at hE
          subst hE
          go_wp2_with fail
          refine CM.mono ?_
          rintro e w' ⟨rfl, n, rfl⟩
          clear CM
          go_wp2_with fail
          go_meet
          exact ⟨rfl, below_dr hb1 n⟩
        · simp at hE
          subst hE
          go_wp2_with fail
          refine CM.mono ?_
          rintro e w' ⟨rfl, n, rfl⟩
          clear CM
          go_wp2_with fail
          go_meet
          exact ⟨rfl, below_dr hb1 n⟩
        · have hE' : low = !pr := by rw [← hE]; simp
          subst hE'
          go_wp2_with fail
          refine CM.mono ?_
          rintro e w' ⟨rfl, n, rfl⟩
          clear CM
          go_wp2_with fail
          refine (CP n).mono ?_
          rintro e w' ⟨rfl, n2, rfl⟩
          clear CP
          go_wp2_with fail
          go_meet
          exact ⟨rfl, by first | exact below_dr hb1 _ | exact below_dr (below_dr hb1 n) n2⟩
  case rest =>
    obtain ⟨rfl, hb0⟩ := hcut
    clear hna
    go_upto_if 42 with fail
    go_cut [15] (fun c wx => c = .bool up ∧ Below w.heap.size w wx)
    case first =>
      cases b with
      | none =>
        have CM := compare_any k p K P ck cp wc (HK.out.later hb0) (HP.out.later hb0)
        have CP := fun n => prefix_any k p K P ck cp (wc.drewN n) (HK.out.later hb0).drew (HP.out.later hb0).drew
        have hE := HUP.out
        simp only [adUp, opt, Option.map] at hE
        generalize pre K P = pr at CP hE
        rcases cmp_vals K P with hc | hc | hc <;> rw [hc] at CM hE <;> clear hc
        · simp at hE
          subst hE
          go_wp2_with fail
          refine CM.mono ?_
          rintro e w' ⟨rfl, n, rfl⟩
          clear CM
          go_wp2_with fail
          go_meet
          exact ⟨rfl, below_dr hb0 n⟩
        all_goals
          have hE' : pr = up := by rw [← hE]; simp
          subst hE'
          go_wp2_with fail
          refine CM.mono ?_
          rintro e w' ⟨rfl, n, rfl⟩
          clear CM
          go_wp2_with fail
          refine (CP n).mono ?_
          rintro e w' ⟨rfl, n2, rfl⟩
          clear CP
          go_wp2_with fail
          go_meet
          exact ⟨rfl, by first | exact below_dr hb0 _ | exact below_dr (below_dr hb0 n) n2⟩
      | some b =>
        have CC := concatB_any p (some b) P B cp cb wc (HP.out.later hb0) (HB.out.later hb0) HPB.out
        have hE := HUP.out
        simp only [adUp, opt, Option.map] at hE
        cases y with
        | true =>
          go_wp2_with fail
          refine CC.mono ?_
          rintro e w1 ⟨rfl, hs1, hb1⟩
          clear CC
          generalize P ++ B = Q at hs1 hE ⊢
          have hb2 : Below w.heap.size w w1 := hb0.trans (hb1.mono hb0.size)
          have CM := compare_any k _ K Q ck _ w1 (HK.out.later hb2) hs1
          rcases cmp_vals K Q with hc | hc | hc <;> rw [hc] at CM hE <;> clear hc
          all_goals
            simp at hE
            subst hE
            go_wp2_with fail
            refine CM.mono ?_
            rintro e w' ⟨rfl, n, rfl⟩
            clear CM
            go_wp2_with fail
            go_meet
            exact ⟨rfl, below_dr hb2 n⟩
        | false =>
          go_wp2_with fail
          refine CC.mono ?_
          rintro e w1 ⟨rfl, hs1, hb1⟩
          clear CC
          generalize P ++ B = Q at hs1 hE ⊢
          have hb2 : Below w.heap.size w w1 := hb0.trans (hb1.mono hb0.size)
          have CM := compare_any k _ K Q ck _ w1 (HK.out.later hb2) hs1
          have CP := fun n => prefix_any k _ K Q ck _ (w1.drewN n) (HK.out.later hb2).drew hs1.drew
          generalize pre K Q = pr at CP hE
          rcases cmp_vals K Q with hc | hc | hc <;> rw [hc] at CM hE <;> clear hc
          · simp at hE
            subst hE
            go_wp2_with fail
            refine CM.mono ?_
            rintro e w' ⟨rfl, n, rfl⟩
            clear CM
            go_wp2_with fail
            go_meet
            exact ⟨rfl, below_dr hb2 n⟩
          all_goals
            have hE' : pr = up := by rw [← hE]; simp
            subst hE'
            go_wp2_with fail
            refine CM.mono ?_
            rintro e w' ⟨rfl, n, rfl⟩
            clear CM
            go_wp2_with fail
            refine (CP n).mono ?_
            rintro e w' ⟨rfl, n2, rfl⟩
            clear CP
            go_wp2_with fail
            go_meet
            exact ⟨rfl, by first | exact below_dr hb2 _ | exact below_dr (below_dr hb2 n) n2⟩
    case rest =>
      obtain ⟨rfl, hb9⟩ := hcut
      cases low with
      | true =>
        go_wp2
        go_ret
        exact ⟨rfl, hb9⟩
      | false =>
        go_wp2
        go_ret
        exact ⟨rfl, hb9⟩
end Go.Proofs.Qxb6000082a
