/-
  No cell of these rows narrows 'for every input' (looked for: loops, veiled, ifaces, maps, wideKeys, modest, calm, conditions, laid).
  DERIVED. THE GIVEN ROWS OF THIS SEAT. 2 by the template 'for every input the law returns true; each argument reads behind the call as it read before'; 0 by the template 'total and deterministic' (their statements: Qxb6631315aTotals.lean).
  GIVEN WITH THE SEED: the statements are not yours to turn. If you find one false, say at which input.
  Laid BY PROGRAM, IN A SANDBOX (cutbox-rows.mjs): the forced cells as the released guide's own fill.sh prints them over the translation 686088d508b6fea5… (all of the seat's roots in one cut). By AI agents, Wed Nov 11 2026. No macro, syntax, notation, axiom, sorry.
-/
import Derived.Test.Qxb6631315aChecked
import GoSem.Claim
import GoSem.ClaimJoined
import GoSem.ClaimMapViews
import Derived.JoinedTies
import Derived.KernelRfl
namespace Go.Proofs.Qxb6631315a
/- THE CELL 'sum', in the pinned program and in every row, IS THE sha256 OF THE DUMP (.gsa) THAT Qxb6631315aProg.lean LOADS. Nothing in Lean hashes anything: it is a label: what it is worth is what the hold of that sum in a sandbox is worth. -/
noncomputable def Try.pinned : Pinned := { name := "qxb6631315a", sum := "686088d508b6fea567b8bf0e1a086f00d4e526783bbbad3b00c8b20f3406a1ce", checked := Try.checked }
namespace Rows
def none {H : Type} : Left H := { results := [], args := [] }

/-- 'zzlaws_internal_config_b1.FnClientAgreesAtAnyCut': WHATEVER THE INPUT: true; the input reads as it did. -/
def fnClientAgreesAtAnyCutSpec : ChangeSpec := { name := "fnClientAgreesAtAnyCut", fn := fun _ => fun
  | [d1, d2, d3] => { results := [.lit (.bool true)], args := [d1, d2, d3] }
  | _ => none }
def fnClientAgreesAtAnyCutRow : OpenClaim := { program := "qxb6631315a", sum := "686088d508b6fea567b8bf0e1a086f00d4e526783bbbad3b00c8b20f3406a1ce", func := "example.com/latchkey/latchkey/zzlaws_internal_config_b1.FnClientAgreesAtAnyCut", spec := "fnClientAgreesAtAnyCut", apart := false }
def FnClientAgreesAtAnyCutSaid : Prop := fnClientAgreesAtAnyCutRow.holds Try.pinned (OpenSpec.ofChange fnClientAgreesAtAnyCutSpec)

/-- ITS FALSE NEIGHBOUR: 'it returns false'. Refute it at one input. -/
def fnClientAgreesAtAnyCutWrong : ChangeSpec := { name := "fnClientAgreesAtAnyCut", fn := fun _ => fun
  | [d1, d2, d3] => { results := [.lit (.bool false)], args := [d1, d2, d3] }
  | _ => none }
def FnClientAgreesAtAnyCutWrongFalsely : Prop := fnClientAgreesAtAnyCutRow.holds Try.pinned (OpenSpec.ofChange fnClientAgreesAtAnyCutWrong)

/-- 'zzlaws_internal_config_b1.FnClientInsertOneAnyPlace': WHATEVER THE INPUT: true; the input reads as it did. -/
def fnClientInsertOneAnyPlaceSpec : ChangeSpec := { name := "fnClientInsertOneAnyPlace", fn := fun _ => fun
  | [d1, d2, d3, d4] => { results := [.lit (.bool true)], args := [d1, d2, d3, d4] }
  | _ => none }
def fnClientInsertOneAnyPlaceRow : OpenClaim := { program := "qxb6631315a", sum := "686088d508b6fea567b8bf0e1a086f00d4e526783bbbad3b00c8b20f3406a1ce", func := "example.com/latchkey/latchkey/zzlaws_internal_config_b1.FnClientInsertOneAnyPlace", spec := "fnClientInsertOneAnyPlace", apart := false }
def FnClientInsertOneAnyPlaceSaid : Prop := fnClientInsertOneAnyPlaceRow.holds Try.pinned (OpenSpec.ofChange fnClientInsertOneAnyPlaceSpec)

/-- ITS FALSE NEIGHBOUR: 'it returns false'. Refute it at one input. -/
def fnClientInsertOneAnyPlaceWrong : ChangeSpec := { name := "fnClientInsertOneAnyPlace", fn := fun _ => fun
  | [d1, d2, d3, d4] => { results := [.lit (.bool false)], args := [d1, d2, d3, d4] }
  | _ => none }
def FnClientInsertOneAnyPlaceWrongFalsely : Prop := fnClientInsertOneAnyPlaceRow.holds Try.pinned (OpenSpec.ofChange fnClientInsertOneAnyPlaceWrong)

end Rows
end Go.Proofs.Qxb6631315a
