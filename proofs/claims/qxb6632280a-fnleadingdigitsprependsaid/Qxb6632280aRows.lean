/-
  No cell of these rows narrows 'for every input' (looked for: loops, veiled, ifaces, maps, wideKeys, modest, calm, conditions, laid).
  DERIVED. THE GIVEN ROWS OF THIS SEAT. 2 by the template 'for every input the law returns true; each argument reads behind the call as it read before'; 0 by the template 'total and deterministic' (their statements: Qxb6632280aTotals.lean).
  GIVEN WITH THE SEED: the statements are not yours to turn. If you find one false, say at which input.
  Laid BY PROGRAM, IN A SANDBOX (cutbox-rows.mjs): the forced cells as the released guide's own fill.sh prints them over the translation dfc6435a7d7e2c05… (all of the seat's roots in one cut). By AI agents, Wed Nov 11 2026. No macro, syntax, notation, axiom, sorry.
-/
import Derived.Test.Qxb6632280aChecked
import GoSem.Claim
import GoSem.ClaimJoined
import GoSem.ClaimMapViews
import Derived.JoinedTies
import Derived.KernelRfl
namespace Go.Proofs.Qxb6632280a
/- THE CELL 'sum', in the pinned program and in every row, IS THE sha256 OF THE DUMP (.gsa) THAT Qxb6632280aProg.lean LOADS. Nothing in Lean hashes anything: it is a label: what it is worth is what the hold of that sum in a sandbox is worth. -/
noncomputable def Try.pinned : Pinned := { name := "qxb6632280a", sum := "dfc6435a7d7e2c0594a3f809b02e6b46840084b518ecb75112281309d7e67bda", checked := Try.checked }
namespace Rows
def none {H : Type} : Left H := { results := [], args := [] }

/-- 'zzlaws_internal_fhirvalue_b1.FnLeadingDigitsConcat': WHATEVER THE INPUT: true; the input reads as it did. -/
def fnLeadingDigitsConcatSpec : ChangeSpec := { name := "fnLeadingDigitsConcat", fn := fun _ => fun
  | [d1, d2] => { results := [.lit (.bool true)], args := [d1, d2] }
  | _ => none }
def fnLeadingDigitsConcatRow : OpenClaim := { program := "qxb6632280a", sum := "dfc6435a7d7e2c0594a3f809b02e6b46840084b518ecb75112281309d7e67bda", func := "example.com/argus/argus/zzlaws_internal_fhirvalue_b1.FnLeadingDigitsConcat", spec := "fnLeadingDigitsConcat", apart := false }
def FnLeadingDigitsConcatSaid : Prop := fnLeadingDigitsConcatRow.holds Try.pinned (OpenSpec.ofChange fnLeadingDigitsConcatSpec)

/-- ITS FALSE NEIGHBOUR: 'it returns false'. Refute it at one input. -/
def fnLeadingDigitsConcatWrong : ChangeSpec := { name := "fnLeadingDigitsConcat", fn := fun _ => fun
  | [d1, d2] => { results := [.lit (.bool false)], args := [d1, d2] }
  | _ => none }
def FnLeadingDigitsConcatWrongFalsely : Prop := fnLeadingDigitsConcatRow.holds Try.pinned (OpenSpec.ofChange fnLeadingDigitsConcatWrong)

/-- 'zzlaws_internal_fhirvalue_b1.FnLeadingDigitsPrepend': WHATEVER THE INPUT: true; the input reads as it did. -/
def fnLeadingDigitsPrependSpec : ChangeSpec := { name := "fnLeadingDigitsPrepend", fn := fun _ => fun
  | [d1, d2] => { results := [.lit (.bool true)], args := [d1, d2] }
  | _ => none }
def fnLeadingDigitsPrependRow : OpenClaim := { program := "qxb6632280a", sum := "dfc6435a7d7e2c0594a3f809b02e6b46840084b518ecb75112281309d7e67bda", func := "example.com/argus/argus/zzlaws_internal_fhirvalue_b1.FnLeadingDigitsPrepend", spec := "fnLeadingDigitsPrepend", apart := false }
def FnLeadingDigitsPrependSaid : Prop := fnLeadingDigitsPrependRow.holds Try.pinned (OpenSpec.ofChange fnLeadingDigitsPrependSpec)

/-- ITS FALSE NEIGHBOUR: 'it returns false'. Refute it at one input. -/
def fnLeadingDigitsPrependWrong : ChangeSpec := { name := "fnLeadingDigitsPrepend", fn := fun _ => fun
  | [d1, d2] => { results := [.lit (.bool false)], args := [d1, d2] }
  | _ => none }
def FnLeadingDigitsPrependWrongFalsely : Prop := fnLeadingDigitsPrependRow.holds Try.pinned (OpenSpec.ofChange fnLeadingDigitsPrependWrong)

end Rows
end Go.Proofs.Qxb6632280a
