/-
  No cell of these rows narrows 'for every input' (looked for: loops, veiled, ifaces, maps, wideKeys, modest, calm, conditions, laid).
  DERIVED. THE GIVEN ROWS OF THIS SEAT. 2 by the template 'for every input the law returns true; each argument reads behind the call as it read before'; 0 by the template 'total and deterministic' (their statements: Qxb6632227aTotals.lean).
  GIVEN WITH THE SEED: the statements are not yours to turn. If you find one false, say at which input.
  Laid BY PROGRAM, IN A SANDBOX (cutbox-rows.mjs): the forced cells as the released guide's own fill.sh prints them over the translation 1181f16980296bee… (all of the seat's roots in one cut). By AI agents, Wed Nov 11 2026. No macro, syntax, notation, axiom, sorry.
-/
import Derived.Test.Qxb6632227aChecked
import GoSem.Claim
import GoSem.ClaimJoined
import GoSem.ClaimMapViews
import Derived.JoinedTies
import Derived.KernelRfl
namespace Go.Proofs.Qxb6632227a
/- THE CELL 'sum', in the pinned program and in every row, IS THE sha256 OF THE DUMP (.gsa) THAT Qxb6632227aProg.lean LOADS. Nothing in Lean hashes anything: it is a label: what it is worth is what the hold of that sum in a sandbox is worth. -/
noncomputable def Try.pinned : Pinned := { name := "qxb6632227a", sum := "1181f16980296bee68370cc4fefc8b8fdf2e92b6074e83ebcf1ccddd764cf39b", checked := Try.checked }
namespace Rows
def none {H : Type} : Left H := { results := [], args := [] }

/-- 'zzlaws_internal_wire_b1.FnAppendUintEncodesExactly': WHATEVER THE INPUT: true; the input reads as it did. -/
def fnAppendUintEncodesExactlySpec : ChangeSpec := { name := "fnAppendUintEncodesExactly", fn := fun _ => fun
  | [d1, d2] => { results := [.lit (.bool true)], args := [d1, d2] }
  | _ => none }
def fnAppendUintEncodesExactlyRow : OpenClaim := { program := "qxb6632227a", sum := "1181f16980296bee68370cc4fefc8b8fdf2e92b6074e83ebcf1ccddd764cf39b", func := "example.com/peerweave/peerweave/zzlaws_internal_wire_b1.FnAppendUintEncodesExactly", spec := "fnAppendUintEncodesExactly", apart := false }
def FnAppendUintEncodesExactlySaid : Prop := fnAppendUintEncodesExactlyRow.holds Try.pinned (OpenSpec.ofChange fnAppendUintEncodesExactlySpec)

/-- ITS FALSE NEIGHBOUR: 'it returns false'. Refute it at one input. -/
def fnAppendUintEncodesExactlyWrong : ChangeSpec := { name := "fnAppendUintEncodesExactly", fn := fun _ => fun
  | [d1, d2] => { results := [.lit (.bool false)], args := [d1, d2] }
  | _ => none }
def FnAppendUintEncodesExactlyWrongFalsely : Prop := fnAppendUintEncodesExactlyRow.holds Try.pinned (OpenSpec.ofChange fnAppendUintEncodesExactlyWrong)

/-- 'zzlaws_internal_wire_b1.FnAppendUintStreamSelfDelimiting': WHATEVER THE INPUT: true; the input reads as it did. -/
def fnAppendUintStreamSelfDelimitingSpec : ChangeSpec := { name := "fnAppendUintStreamSelfDelimiting", fn := fun _ => fun
  | [d1, d2, d3] => { results := [.lit (.bool true)], args := [d1, d2, d3] }
  | _ => none }
def fnAppendUintStreamSelfDelimitingRow : OpenClaim := { program := "qxb6632227a", sum := "1181f16980296bee68370cc4fefc8b8fdf2e92b6074e83ebcf1ccddd764cf39b", func := "example.com/peerweave/peerweave/zzlaws_internal_wire_b1.FnAppendUintStreamSelfDelimiting", spec := "fnAppendUintStreamSelfDelimiting", apart := false }
def FnAppendUintStreamSelfDelimitingSaid : Prop := fnAppendUintStreamSelfDelimitingRow.holds Try.pinned (OpenSpec.ofChange fnAppendUintStreamSelfDelimitingSpec)

/-- ITS FALSE NEIGHBOUR: 'it returns false'. Refute it at one input. -/
def fnAppendUintStreamSelfDelimitingWrong : ChangeSpec := { name := "fnAppendUintStreamSelfDelimiting", fn := fun _ => fun
  | [d1, d2, d3] => { results := [.lit (.bool false)], args := [d1, d2, d3] }
  | _ => none }
def FnAppendUintStreamSelfDelimitingWrongFalsely : Prop := fnAppendUintStreamSelfDelimitingRow.holds Try.pinned (OpenSpec.ofChange fnAppendUintStreamSelfDelimitingWrong)

end Rows
end Go.Proofs.Qxb6632227a
