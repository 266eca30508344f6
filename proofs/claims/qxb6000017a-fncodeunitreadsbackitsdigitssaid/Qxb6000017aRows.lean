/-
  No cell of these rows narrows 'for every input' (looked for: loops, veiled, ifaces, maps, wideKeys, modest, calm, conditions, laid).
  DERIVED. THE GIVEN ROWS OF THIS SEAT. 3 by the template 'for every input the law returns true; each argument reads behind the call as it read before'; 0 by the template 'total and deterministic' (their statements: Qxb6000017aTotals.lean).
  GIVEN WITH THE SEED: the statements are not yours to turn. If you find one false, say at which input.
  Laid BY PROGRAM, IN A SANDBOX (cutbox-rows.mjs): the forced cells as the released guide's own fill.sh prints them over the translation 4e80ebd526850194… (all of the seat's roots in one cut). By AI agents, Wed Nov 11 2026. No macro, syntax, notation, axiom, sorry.
-/
import Derived.Test.Qxb6000017aChecked
import GoSem.Claim
import GoSem.ClaimJoined
import GoSem.ClaimMapViews
import Derived.JoinedTies
import Derived.KernelRfl
namespace Go.Proofs.Qxb6000017a
/- THE CELL 'sum', in the pinned program and in every row, IS THE sha256 OF THE DUMP (.gsa) THAT Qxb6000017aProg.lean LOADS. Nothing in Lean hashes anything: it is a label: what it is worth is what the hold of that sum in a sandbox is worth. -/
noncomputable def Try.pinned : Pinned := { name := "qxb6000017a", sum := "4e80ebd5268501940e529f9e340413503d9873296c5c4f8b77449db3e9f9cbd0", checked := Try.checked }
namespace Rows
def none {H : Type} : Left H := { results := [], args := [] }

/-- 'zzlaws_pkg_record_b1.FnCodeUnitValueOfHexDigits': WHATEVER THE INPUT: true; the input reads as it did. -/
def fnCodeUnitValueOfHexDigitsSpec : ChangeSpec := { name := "fnCodeUnitValueOfHexDigits", fn := fun _ => fun
  | [d] => { results := [.lit (.bool true)], args := [d] }
  | _ => none }
def fnCodeUnitValueOfHexDigitsRow : OpenClaim := { program := "qxb6000017a", sum := "4e80ebd5268501940e529f9e340413503d9873296c5c4f8b77449db3e9f9cbd0", func := "example.com/attestrail/attestrail/zzlaws_pkg_record_b1.FnCodeUnitValueOfHexDigits", spec := "fnCodeUnitValueOfHexDigits", apart := false }
def FnCodeUnitValueOfHexDigitsSaid : Prop := fnCodeUnitValueOfHexDigitsRow.holds Try.pinned (OpenSpec.ofChange fnCodeUnitValueOfHexDigitsSpec)

/-- ITS FALSE NEIGHBOUR: 'it returns false'. Refute it at one input. -/
def fnCodeUnitValueOfHexDigitsWrong : ChangeSpec := { name := "fnCodeUnitValueOfHexDigits", fn := fun _ => fun
  | [d] => { results := [.lit (.bool false)], args := [d] }
  | _ => none }
def FnCodeUnitValueOfHexDigitsWrongFalsely : Prop := fnCodeUnitValueOfHexDigitsRow.holds Try.pinned (OpenSpec.ofChange fnCodeUnitValueOfHexDigitsWrong)

/-- 'zzlaws_pkg_record_b1.FnCodeUnitReadsBackItsDigits': WHATEVER THE INPUT: true; the input reads as it did. -/
def fnCodeUnitReadsBackItsDigitsSpec : ChangeSpec := { name := "fnCodeUnitReadsBackItsDigits", fn := fun _ => fun
  | [d1, d2, d3] => { results := [.lit (.bool true)], args := [d1, d2, d3] }
  | _ => none }
def fnCodeUnitReadsBackItsDigitsRow : OpenClaim := { program := "qxb6000017a", sum := "4e80ebd5268501940e529f9e340413503d9873296c5c4f8b77449db3e9f9cbd0", func := "example.com/attestrail/attestrail/zzlaws_pkg_record_b1.FnCodeUnitReadsBackItsDigits", spec := "fnCodeUnitReadsBackItsDigits", apart := false }
def FnCodeUnitReadsBackItsDigitsSaid : Prop := fnCodeUnitReadsBackItsDigitsRow.holds Try.pinned (OpenSpec.ofChange fnCodeUnitReadsBackItsDigitsSpec)

/-- ITS FALSE NEIGHBOUR: 'it returns false'. Refute it at one input. -/
def fnCodeUnitReadsBackItsDigitsWrong : ChangeSpec := { name := "fnCodeUnitReadsBackItsDigits", fn := fun _ => fun
  | [d1, d2, d3] => { results := [.lit (.bool false)], args := [d1, d2, d3] }
  | _ => none }
def FnCodeUnitReadsBackItsDigitsWrongFalsely : Prop := fnCodeUnitReadsBackItsDigitsRow.holds Try.pinned (OpenSpec.ofChange fnCodeUnitReadsBackItsDigitsWrong)

/-- 'zzlaws_pkg_record_b1.FnCountMembersOfBuiltObject': WHATEVER THE INPUT: true; the input reads as it did. -/
def fnCountMembersOfBuiltObjectSpec : ChangeSpec := { name := "fnCountMembersOfBuiltObject", fn := fun _ => fun
  | [d1, d2, d3] => { results := [.lit (.bool true)], args := [d1, d2, d3] }
  | _ => none }
def fnCountMembersOfBuiltObjectRow : OpenClaim := { program := "qxb6000017a", sum := "4e80ebd5268501940e529f9e340413503d9873296c5c4f8b77449db3e9f9cbd0", func := "example.com/attestrail/attestrail/zzlaws_pkg_record_b1.FnCountMembersOfBuiltObject", spec := "fnCountMembersOfBuiltObject", recurses := true, apart := false }
def FnCountMembersOfBuiltObjectSaid : Prop := fnCountMembersOfBuiltObjectRow.holds Try.pinned (OpenSpec.ofChange fnCountMembersOfBuiltObjectSpec)

/-- ITS FALSE NEIGHBOUR: 'it returns false'. Refute it at one input. -/
def fnCountMembersOfBuiltObjectWrong : ChangeSpec := { name := "fnCountMembersOfBuiltObject", fn := fun _ => fun
  | [d1, d2, d3] => { results := [.lit (.bool false)], args := [d1, d2, d3] }
  | _ => none }
def FnCountMembersOfBuiltObjectWrongFalsely : Prop := fnCountMembersOfBuiltObjectRow.holds Try.pinned (OpenSpec.ofChange fnCountMembersOfBuiltObjectWrong)

end Rows
end Go.Proofs.Qxb6000017a
