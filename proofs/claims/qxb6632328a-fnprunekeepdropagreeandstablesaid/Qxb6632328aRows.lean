/-
  No cell of these rows narrows 'for every input' (looked for: loops, veiled, ifaces, maps, wideKeys, modest, calm, conditions, laid).
  DERIVED. THE GIVEN ROWS OF THIS SEAT. 2 by the template 'for every input the law returns true; each argument reads behind the call as it read before'; 0 by the template 'total and deterministic' (their statements: Qxb6632328aTotals.lean).
  GIVEN WITH THE SEED: the statements are not yours to turn. If you find one false, say at which input.
  Laid BY PROGRAM, IN A SANDBOX (cutbox-rows.mjs): the forced cells as the released guide's own fill.sh prints them over the translation 48059b18db0db682… (all of the seat's roots in one cut). By AI agents, Wed Nov 11 2026. No macro, syntax, notation, axiom, sorry.
-/
import Derived.Test.Qxb6632328aChecked
import GoSem.Claim
import GoSem.ClaimJoined
import GoSem.ClaimMapViews
import Derived.JoinedTies
import Derived.KernelRfl
namespace Go.Proofs.Qxb6632328a
/- THE CELL 'sum', in the pinned program and in every row, IS THE sha256 OF THE DUMP (.gsa) THAT Qxb6632328aProg.lean LOADS. Nothing in Lean hashes anything: it is a label: what it is worth is what the hold of that sum in a sandbox is worth. -/
noncomputable def Try.pinned : Pinned := { name := "qxb6632328a", sum := "48059b18db0db682f5973e140099958440bfff9afb5ca3e630713c16094b36e7", checked := Try.checked }
namespace Rows
def none {H : Type} : Left H := { results := [], args := [] }

/-- 'zzlaws_internal_kv_b1.FnPruneMatchesReadModel': WHATEVER THE INPUT: true; the input reads as it did. -/
def fnPruneMatchesReadModelSpec : ChangeSpec := { name := "fnPruneMatchesReadModel", fn := fun _ => fun
  | [d1, d2, d3, d4] => { results := [.lit (.bool true)], args := [d1, d2, d3, d4] }
  | _ => none }
def fnPruneMatchesReadModelRow : OpenClaim := { program := "qxb6632328a", sum := "48059b18db0db682f5973e140099958440bfff9afb5ca3e630713c16094b36e7", func := "example.com/pactline/pactline/zzlaws_internal_kv_b1.FnPruneMatchesReadModel", spec := "fnPruneMatchesReadModel", apart := false }
def FnPruneMatchesReadModelSaid : Prop := fnPruneMatchesReadModelRow.holds Try.pinned (OpenSpec.ofChange fnPruneMatchesReadModelSpec)

/-- ITS FALSE NEIGHBOUR: 'it returns false'. Refute it at one input. -/
def fnPruneMatchesReadModelWrong : ChangeSpec := { name := "fnPruneMatchesReadModel", fn := fun _ => fun
  | [d1, d2, d3, d4] => { results := [.lit (.bool false)], args := [d1, d2, d3, d4] }
  | _ => none }
def FnPruneMatchesReadModelWrongFalsely : Prop := fnPruneMatchesReadModelRow.holds Try.pinned (OpenSpec.ofChange fnPruneMatchesReadModelWrong)

/-- 'zzlaws_internal_kv_b1.FnPruneKeepDropAgreeAndStable': WHATEVER THE INPUT: true; the input reads as it did. -/
def fnPruneKeepDropAgreeAndStableSpec : ChangeSpec := { name := "fnPruneKeepDropAgreeAndStable", fn := fun _ => fun
  | [d1, d2, d3] => { results := [.lit (.bool true)], args := [d1, d2, d3] }
  | _ => none }
def fnPruneKeepDropAgreeAndStableRow : OpenClaim := { program := "qxb6632328a", sum := "48059b18db0db682f5973e140099958440bfff9afb5ca3e630713c16094b36e7", func := "example.com/pactline/pactline/zzlaws_internal_kv_b1.FnPruneKeepDropAgreeAndStable", spec := "fnPruneKeepDropAgreeAndStable", apart := false }
def FnPruneKeepDropAgreeAndStableSaid : Prop := fnPruneKeepDropAgreeAndStableRow.holds Try.pinned (OpenSpec.ofChange fnPruneKeepDropAgreeAndStableSpec)

/-- ITS FALSE NEIGHBOUR: 'it returns false'. Refute it at one input. -/
def fnPruneKeepDropAgreeAndStableWrong : ChangeSpec := { name := "fnPruneKeepDropAgreeAndStable", fn := fun _ => fun
  | [d1, d2, d3] => { results := [.lit (.bool false)], args := [d1, d2, d3] }
  | _ => none }
def FnPruneKeepDropAgreeAndStableWrongFalsely : Prop := fnPruneKeepDropAgreeAndStableRow.holds Try.pinned (OpenSpec.ofChange fnPruneKeepDropAgreeAndStableWrong)

end Rows
end Go.Proofs.Qxb6632328a
