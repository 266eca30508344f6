/-
  No cell of these rows narrows 'for every input' (looked for: loops, veiled, ifaces, maps, wideKeys, modest, calm, conditions, laid).
  DERIVED. THE GIVEN ROWS OF THIS SEAT. 5 by the template 'for every input the law returns true; each argument reads behind the call as it read before'; 0 by the template 'total and deterministic' (their statements: Qxb6001669aTotals.lean).
  GIVEN WITH THE SEED: the statements are not yours to turn. If you find one false, say at which input.
  Laid BY PROGRAM, IN A SANDBOX (cutbox-rows.mjs): the forced cells as the released guide's own fill.sh prints them over the translation 89dda4329607965c… (all of the seat's roots in one cut). By AI agents, Wed Nov 11 2026. No macro, syntax, notation, axiom, sorry.
-/
import Derived.Test.Qxb6001669aChecked
import GoSem.Claim
import GoSem.ClaimJoined
import GoSem.ClaimMapViews
import Derived.JoinedTies
import Derived.KernelRfl
namespace Go.Proofs.Qxb6001669a
/- THE CELL 'sum', in the pinned program and in every row, IS THE sha256 OF THE DUMP (.gsa) THAT Qxb6001669aProg.lean LOADS. Nothing in Lean hashes anything: it is a label: what it is worth is what the hold of that sum in a sandbox is worth. -/
noncomputable def Try.pinned : Pinned := { name := "qxb6001669a", sum := "89dda4329607965c87cf5f5fe8c150f28fcf2454bbca70cfec84e8ae5ee52565", checked := Try.checked }
namespace Rows
def none {H : Type} : Left H := { results := [], args := [] }

/-- 'zzlaws_pkg_money_g1.FnAddRatiosExactLowestTerms': WHATEVER THE INPUT: true; the input reads as it did. -/
def fnAddRatiosExactLowestTermsSpec : ChangeSpec := { name := "fnAddRatiosExactLowestTerms", fn := fun _ => fun
  | [d1, d2, d3, d4] => { results := [.lit (.bool true)], args := [d1, d2, d3, d4] }
  | _ => none }
def fnAddRatiosExactLowestTermsRow : OpenClaim := { program := "qxb6001669a", sum := "89dda4329607965c87cf5f5fe8c150f28fcf2454bbca70cfec84e8ae5ee52565", func := "example.com/ratebook/ratebook/zzlaws_pkg_money_g1.FnAddRatiosExactLowestTerms", spec := "fnAddRatiosExactLowestTerms", apart := false }
def FnAddRatiosExactLowestTermsSaid : Prop := fnAddRatiosExactLowestTermsRow.holds Try.pinned (OpenSpec.ofChange fnAddRatiosExactLowestTermsSpec)

/-- ITS FALSE NEIGHBOUR: 'it returns false'. Refute it at one input. -/
def fnAddRatiosExactLowestTermsWrong : ChangeSpec := { name := "fnAddRatiosExactLowestTerms", fn := fun _ => fun
  | [d1, d2, d3, d4] => { results := [.lit (.bool false)], args := [d1, d2, d3, d4] }
  | _ => none }
def FnAddRatiosExactLowestTermsWrongFalsely : Prop := fnAddRatiosExactLowestTermsRow.holds Try.pinned (OpenSpec.ofChange fnAddRatiosExactLowestTermsWrong)

/-- 'zzlaws_pkg_money_g2.FnAddExactRange': WHATEVER THE INPUT: true; the input reads as it did. -/
def fnAddExactRangeSpec : ChangeSpec := { name := "fnAddExactRange", fn := fun _ => fun
  | [d1, d2] => { results := [.lit (.bool true)], args := [d1, d2] }
  | _ => none }
def fnAddExactRangeRow : OpenClaim := { program := "qxb6001669a", sum := "89dda4329607965c87cf5f5fe8c150f28fcf2454bbca70cfec84e8ae5ee52565", func := "example.com/ratebook/ratebook/zzlaws_pkg_money_g2.FnAddExactRange", spec := "fnAddExactRange", apart := false }
def FnAddExactRangeSaid : Prop := fnAddExactRangeRow.holds Try.pinned (OpenSpec.ofChange fnAddExactRangeSpec)

/-- ITS FALSE NEIGHBOUR: 'it returns false'. Refute it at one input. -/
def fnAddExactRangeWrong : ChangeSpec := { name := "fnAddExactRange", fn := fun _ => fun
  | [d1, d2] => { results := [.lit (.bool false)], args := [d1, d2] }
  | _ => none }
def FnAddExactRangeWrongFalsely : Prop := fnAddExactRangeRow.holds Try.pinned (OpenSpec.ofChange fnAddExactRangeWrong)

/-- 'zzlaws_pkg_money_g2.FnMulExactRange': WHATEVER THE INPUT: true; the input reads as it did. -/
def fnMulExactRangeSpec : ChangeSpec := { name := "fnMulExactRange", fn := fun _ => fun
  | [d1, d2] => { results := [.lit (.bool true)], args := [d1, d2] }
  | _ => none }
def fnMulExactRangeRow : OpenClaim := { program := "qxb6001669a", sum := "89dda4329607965c87cf5f5fe8c150f28fcf2454bbca70cfec84e8ae5ee52565", func := "example.com/ratebook/ratebook/zzlaws_pkg_money_g2.FnMulExactRange", spec := "fnMulExactRange", apart := false }
def FnMulExactRangeSaid : Prop := fnMulExactRangeRow.holds Try.pinned (OpenSpec.ofChange fnMulExactRangeSpec)

/-- ITS FALSE NEIGHBOUR: 'it returns false'. Refute it at one input. -/
def fnMulExactRangeWrong : ChangeSpec := { name := "fnMulExactRange", fn := fun _ => fun
  | [d1, d2] => { results := [.lit (.bool false)], args := [d1, d2] }
  | _ => none }
def FnMulExactRangeWrongFalsely : Prop := fnMulExactRangeRow.holds Try.pinned (OpenSpec.ofChange fnMulExactRangeWrong)

/-- 'zzlaws_pkg_money_g2.FnGcdAgreesWithBinaryGcd': WHATEVER THE INPUT: true; the input reads as it did. -/
def fnGcdAgreesWithBinaryGcdSpec : ChangeSpec := { name := "fnGcdAgreesWithBinaryGcd", fn := fun _ => fun
  | [d1, d2] => { results := [.lit (.bool true)], args := [d1, d2] }
  | _ => none }
def fnGcdAgreesWithBinaryGcdRow : OpenClaim := { program := "qxb6001669a", sum := "89dda4329607965c87cf5f5fe8c150f28fcf2454bbca70cfec84e8ae5ee52565", func := "example.com/ratebook/ratebook/zzlaws_pkg_money_g2.FnGcdAgreesWithBinaryGcd", spec := "fnGcdAgreesWithBinaryGcd", apart := false }
def FnGcdAgreesWithBinaryGcdSaid : Prop := fnGcdAgreesWithBinaryGcdRow.holds Try.pinned (OpenSpec.ofChange fnGcdAgreesWithBinaryGcdSpec)

/-- ITS FALSE NEIGHBOUR: 'it returns false'. Refute it at one input. -/
def fnGcdAgreesWithBinaryGcdWrong : ChangeSpec := { name := "fnGcdAgreesWithBinaryGcd", fn := fun _ => fun
  | [d1, d2] => { results := [.lit (.bool false)], args := [d1, d2] }
  | _ => none }
def FnGcdAgreesWithBinaryGcdWrongFalsely : Prop := fnGcdAgreesWithBinaryGcdRow.holds Try.pinned (OpenSpec.ofChange fnGcdAgreesWithBinaryGcdWrong)

/-- 'zzlaws_pkg_money_g2.FnFromRatioLowestTerms': WHATEVER THE INPUT: true; the input reads as it did. -/
def fnFromRatioLowestTermsSpec : ChangeSpec := { name := "fnFromRatioLowestTerms", fn := fun _ => fun
  | [d1, d2] => { results := [.lit (.bool true)], args := [d1, d2] }
  | _ => none }
def fnFromRatioLowestTermsRow : OpenClaim := { program := "qxb6001669a", sum := "89dda4329607965c87cf5f5fe8c150f28fcf2454bbca70cfec84e8ae5ee52565", func := "example.com/ratebook/ratebook/zzlaws_pkg_money_g2.FnFromRatioLowestTerms", spec := "fnFromRatioLowestTerms", apart := false }
def FnFromRatioLowestTermsSaid : Prop := fnFromRatioLowestTermsRow.holds Try.pinned (OpenSpec.ofChange fnFromRatioLowestTermsSpec)

/-- ITS FALSE NEIGHBOUR: 'it returns false'. Refute it at one input. -/
def fnFromRatioLowestTermsWrong : ChangeSpec := { name := "fnFromRatioLowestTerms", fn := fun _ => fun
  | [d1, d2] => { results := [.lit (.bool false)], args := [d1, d2] }
  | _ => none }
def FnFromRatioLowestTermsWrongFalsely : Prop := fnFromRatioLowestTermsRow.holds Try.pinned (OpenSpec.ofChange fnFromRatioLowestTermsWrong)

end Rows
end Go.Proofs.Qxb6001669a
