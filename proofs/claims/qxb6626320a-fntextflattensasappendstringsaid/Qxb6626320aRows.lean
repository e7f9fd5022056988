/-
  No cell of these rows narrows 'for every input' (looked for: loops, veiled, ifaces, maps, wideKeys, modest, calm, conditions, laid).
  DERIVED. THE GIVEN ROWS OF THIS SEAT. 2 by the template 'for every input the law returns true; each argument reads behind the call as it read before'; 0 by the template 'total and deterministic' (their statements: Qxb6626320aTotals.lean).
  GIVEN WITH THE SEED: the statements are not yours to turn. If you find one false, say at which input.
  Laid BY PROGRAM, IN A SANDBOX (cutbox-rows.mjs): the forced cells as the released guide's own fill.sh prints them over the translation d75ee90e948be0b4… (all of the seat's roots in one cut). By AI agents, Wed Nov 11 2026. No macro, syntax, notation, axiom, sorry.
-/
import Derived.Test.Qxb6626320aChecked
import GoSem.Claim
import GoSem.ClaimJoined
import GoSem.ClaimMapViews
import Derived.JoinedTies
import Derived.KernelRfl
namespace Go.Proofs.Qxb6626320a
/- THE CELL 'sum', in the pinned program and in every row, IS THE sha256 OF THE DUMP (.gsa) THAT Qxb6626320aProg.lean LOADS. Nothing in Lean hashes anything: it is a label: what it is worth is what the hold of that sum in a sandbox is worth. -/
noncomputable def Try.pinned : Pinned := { name := "qxb6626320a", sum := "d75ee90e948be0b4b9a3d81792021567bd7ad303cd7f58ed1a6cd0c1a7f5e18b", checked := Try.checked }
namespace Rows
def none {H : Type} : Left H := { results := [], args := [] }

/-- 'zzlaws_fields_b1.FnTextFlattensAsAppendString': WHATEVER THE INPUT: true; the input reads as it did. -/
def fnTextFlattensAsAppendStringSpec : ChangeSpec := { name := "fnTextFlattensAsAppendString", fn := fun _ => fun
  | [d1, d2, d3, d4, d5] => { results := [.lit (.bool true)], args := [d1, d2, d3, d4, d5] }
  | _ => none }
def fnTextFlattensAsAppendStringRow : OpenClaim := { program := "qxb6626320a", sum := "d75ee90e948be0b4b9a3d81792021567bd7ad303cd7f58ed1a6cd0c1a7f5e18b", func := "example.com/highwater/highwater/zzlaws_fields_b1.FnTextFlattensAsAppendString", spec := "fnTextFlattensAsAppendString", apart := false }
def FnTextFlattensAsAppendStringSaid : Prop := fnTextFlattensAsAppendStringRow.holds Try.pinned (OpenSpec.ofChange fnTextFlattensAsAppendStringSpec)

/-- ITS FALSE NEIGHBOUR: 'it returns false'. Refute it at one input. -/
def fnTextFlattensAsAppendStringWrong : ChangeSpec := { name := "fnTextFlattensAsAppendString", fn := fun _ => fun
  | [d1, d2, d3, d4, d5] => { results := [.lit (.bool false)], args := [d1, d2, d3, d4, d5] }
  | _ => none }
def FnTextFlattensAsAppendStringWrongFalsely : Prop := fnTextFlattensAsAppendStringRow.holds Try.pinned (OpenSpec.ofChange fnTextFlattensAsAppendStringWrong)

/-- 'zzlaws_fields_b1.FnTextScriptKeepsRecordInvariant': WHATEVER THE INPUT: true; the input reads as it did. -/
def fnTextScriptKeepsRecordInvariantSpec : ChangeSpec := { name := "fnTextScriptKeepsRecordInvariant", fn := fun _ => fun
  | [d] => { results := [.lit (.bool true)], args := [d] }
  | _ => none }
def fnTextScriptKeepsRecordInvariantRow : OpenClaim := { program := "qxb6626320a", sum := "d75ee90e948be0b4b9a3d81792021567bd7ad303cd7f58ed1a6cd0c1a7f5e18b", func := "example.com/highwater/highwater/zzlaws_fields_b1.FnTextScriptKeepsRecordInvariant", spec := "fnTextScriptKeepsRecordInvariant", apart := false }
def FnTextScriptKeepsRecordInvariantSaid : Prop := fnTextScriptKeepsRecordInvariantRow.holds Try.pinned (OpenSpec.ofChange fnTextScriptKeepsRecordInvariantSpec)

/-- ITS FALSE NEIGHBOUR: 'it returns false'. Refute it at one input. -/
def fnTextScriptKeepsRecordInvariantWrong : ChangeSpec := { name := "fnTextScriptKeepsRecordInvariant", fn := fun _ => fun
  | [d] => { results := [.lit (.bool false)], args := [d] }
  | _ => none }
def FnTextScriptKeepsRecordInvariantWrongFalsely : Prop := fnTextScriptKeepsRecordInvariantRow.holds Try.pinned (OpenSpec.ofChange fnTextScriptKeepsRecordInvariantWrong)

end Rows
end Go.Proofs.Qxb6626320a
