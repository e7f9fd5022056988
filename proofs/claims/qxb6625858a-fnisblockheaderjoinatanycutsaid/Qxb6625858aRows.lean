/-
  No cell of these rows narrows 'for every input' (looked for: loops, veiled, ifaces, maps, wideKeys, modest, calm, conditions, laid).
  DERIVED. THE GIVEN ROWS OF THIS SEAT. 2 by the template 'for every input the law returns true; each argument reads behind the call as it read before'; 0 by the template 'total and deterministic' (their statements: Qxb6625858aTotals.lean).
  GIVEN WITH THE SEED: the statements are not yours to turn. If you find one false, say at which input.
  Laid BY PROGRAM, IN A SANDBOX (cutbox-rows.mjs): the forced cells as the released guide's own fill.sh prints them over the translation 8b6baf1f8d04968a… (all of the seat's roots in one cut). By AI agents, Wed Nov 11 2026. No macro, syntax, notation, axiom, sorry.
-/
import Derived.Test.Qxb6625858aChecked
import GoSem.Claim
import GoSem.ClaimJoined
import GoSem.ClaimMapViews
import Derived.JoinedTies
import Derived.KernelRfl
namespace Go.Proofs.Qxb6625858a
/- THE CELL 'sum', in the pinned program and in every row, IS THE sha256 OF THE DUMP (.gsa) THAT Qxb6625858aProg.lean LOADS. Nothing in Lean hashes anything: it is a label: what it is worth is what the hold of that sum in a sandbox is worth. -/
noncomputable def Try.pinned : Pinned := { name := "qxb6625858a", sum := "8b6baf1f8d04968a2a1f7e8014b87952277f3a64807d2ff8609671196eb0b24b", checked := Try.checked }
namespace Rows
def none {H : Type} : Left H := { results := [], args := [] }

/-- 'zzlaws_internal_block_b1.FnIsBlockHeaderCaseTable': WHATEVER THE INPUT: true; the input reads as it did. -/
def fnIsBlockHeaderCaseTableSpec : ChangeSpec := { name := "fnIsBlockHeaderCaseTable", fn := fun _ => fun
  | [d] => { results := [.lit (.bool true)], args := [d] }
  | _ => none }
def fnIsBlockHeaderCaseTableRow : OpenClaim := { program := "qxb6625858a", sum := "8b6baf1f8d04968a2a1f7e8014b87952277f3a64807d2ff8609671196eb0b24b", func := "example.com/muster/muster/zzlaws_internal_block_b1.FnIsBlockHeaderCaseTable", spec := "fnIsBlockHeaderCaseTable", apart := false }
def FnIsBlockHeaderCaseTableSaid : Prop := fnIsBlockHeaderCaseTableRow.holds Try.pinned (OpenSpec.ofChange fnIsBlockHeaderCaseTableSpec)

/-- ITS FALSE NEIGHBOUR: 'it returns false'. Refute it at one input. -/
def fnIsBlockHeaderCaseTableWrong : ChangeSpec := { name := "fnIsBlockHeaderCaseTable", fn := fun _ => fun
  | [d] => { results := [.lit (.bool false)], args := [d] }
  | _ => none }
def FnIsBlockHeaderCaseTableWrongFalsely : Prop := fnIsBlockHeaderCaseTableRow.holds Try.pinned (OpenSpec.ofChange fnIsBlockHeaderCaseTableWrong)

/-- 'zzlaws_internal_block_b1.FnIsBlockHeaderJoinAtAnyCut': WHATEVER THE INPUT: true; the input reads as it did. -/
def fnIsBlockHeaderJoinAtAnyCutSpec : ChangeSpec := { name := "fnIsBlockHeaderJoinAtAnyCut", fn := fun _ => fun
  | [d1, d2] => { results := [.lit (.bool true)], args := [d1, d2] }
  | _ => none }
def fnIsBlockHeaderJoinAtAnyCutRow : OpenClaim := { program := "qxb6625858a", sum := "8b6baf1f8d04968a2a1f7e8014b87952277f3a64807d2ff8609671196eb0b24b", func := "example.com/muster/muster/zzlaws_internal_block_b1.FnIsBlockHeaderJoinAtAnyCut", spec := "fnIsBlockHeaderJoinAtAnyCut", apart := false }
def FnIsBlockHeaderJoinAtAnyCutSaid : Prop := fnIsBlockHeaderJoinAtAnyCutRow.holds Try.pinned (OpenSpec.ofChange fnIsBlockHeaderJoinAtAnyCutSpec)

/-- ITS FALSE NEIGHBOUR: 'it returns false'. Refute it at one input. -/
def fnIsBlockHeaderJoinAtAnyCutWrong : ChangeSpec := { name := "fnIsBlockHeaderJoinAtAnyCut", fn := fun _ => fun
  | [d1, d2] => { results := [.lit (.bool false)], args := [d1, d2] }
  | _ => none }
def FnIsBlockHeaderJoinAtAnyCutWrongFalsely : Prop := fnIsBlockHeaderJoinAtAnyCutRow.holds Try.pinned (OpenSpec.ofChange fnIsBlockHeaderJoinAtAnyCutWrong)

end Rows
end Go.Proofs.Qxb6625858a
