/-
  No cell of these rows narrows 'for every input' (looked for: loops, veiled, ifaces, maps, wideKeys, modest, calm, conditions, laid).
  DERIVED. THE GIVEN ROWS OF THIS SEAT. 2 by the template 'for every input the law returns true; each argument reads behind the call as it read before'; 0 by the template 'total and deterministic' (their statements: Qxb6626223aTotals.lean).
  GIVEN WITH THE SEED: the statements are not yours to turn. If you find one false, say at which input.
  Laid BY PROGRAM, IN A SANDBOX (cutbox-rows.mjs): the forced cells as the released guide's own fill.sh prints them over the translation f4bf3f139071df3d… (all of the seat's roots in one cut). By AI agents, Wed Nov 11 2026. No macro, syntax, notation, axiom, sorry.
-/
import Derived.Test.Qxb6626223aChecked
import GoSem.Claim
import GoSem.ClaimJoined
import GoSem.ClaimMapViews
import Derived.JoinedTies
import Derived.KernelRfl
namespace Go.Proofs.Qxb6626223a
/- THE CELL 'sum', in the pinned program and in every row, IS THE sha256 OF THE DUMP (.gsa) THAT Qxb6626223aProg.lean LOADS. Nothing in Lean hashes anything: it is a label: what it is worth is what the hold of that sum in a sandbox is worth. -/
noncomputable def Try.pinned : Pinned := { name := "qxb6626223a", sum := "f4bf3f139071df3d3d8919dfed0a58c0451010e73b0af2079ca21c1cef819c2a", checked := Try.checked }
namespace Rows
def none {H : Type} : Left H := { results := [], args := [] }

/-- 'zzlaws_conflict_b1.FnCyclesAreMutualReachGroups': WHATEVER THE INPUT: true; the input reads as it did. -/
def fnCyclesAreMutualReachGroupsSpec : ChangeSpec := { name := "fnCyclesAreMutualReachGroups", fn := fun _ => fun
  | [d] => { results := [.lit (.bool true)], args := [d] }
  | _ => none }
def fnCyclesAreMutualReachGroupsRow : OpenClaim := { program := "qxb6626223a", sum := "f4bf3f139071df3d3d8919dfed0a58c0451010e73b0af2079ca21c1cef819c2a", func := "example.com/sojourn/sojourn/zzlaws_conflict_b1.FnCyclesAreMutualReachGroups", spec := "fnCyclesAreMutualReachGroups", unfollowed := true, recurses := true, apart := false }
def FnCyclesAreMutualReachGroupsSaid : Prop := fnCyclesAreMutualReachGroupsRow.holds Try.pinned (OpenSpec.ofChange fnCyclesAreMutualReachGroupsSpec)

/-- ITS FALSE NEIGHBOUR: 'it returns false'. Refute it at one input. -/
def fnCyclesAreMutualReachGroupsWrong : ChangeSpec := { name := "fnCyclesAreMutualReachGroups", fn := fun _ => fun
  | [d] => { results := [.lit (.bool false)], args := [d] }
  | _ => none }
def FnCyclesAreMutualReachGroupsWrongFalsely : Prop := fnCyclesAreMutualReachGroupsRow.holds Try.pinned (OpenSpec.ofChange fnCyclesAreMutualReachGroupsWrong)

/-- 'zzlaws_conflict_b1.FnCyclesTransposeAndUndirected': WHATEVER THE INPUT: true; the input reads as it did. -/
def fnCyclesTransposeAndUndirectedSpec : ChangeSpec := { name := "fnCyclesTransposeAndUndirected", fn := fun _ => fun
  | [d] => { results := [.lit (.bool true)], args := [d] }
  | _ => none }
def fnCyclesTransposeAndUndirectedRow : OpenClaim := { program := "qxb6626223a", sum := "f4bf3f139071df3d3d8919dfed0a58c0451010e73b0af2079ca21c1cef819c2a", func := "example.com/sojourn/sojourn/zzlaws_conflict_b1.FnCyclesTransposeAndUndirected", spec := "fnCyclesTransposeAndUndirected", unfollowed := true, recurses := true, apart := false }
def FnCyclesTransposeAndUndirectedSaid : Prop := fnCyclesTransposeAndUndirectedRow.holds Try.pinned (OpenSpec.ofChange fnCyclesTransposeAndUndirectedSpec)

/-- ITS FALSE NEIGHBOUR: 'it returns false'. Refute it at one input. -/
def fnCyclesTransposeAndUndirectedWrong : ChangeSpec := { name := "fnCyclesTransposeAndUndirected", fn := fun _ => fun
  | [d] => { results := [.lit (.bool false)], args := [d] }
  | _ => none }
def FnCyclesTransposeAndUndirectedWrongFalsely : Prop := fnCyclesTransposeAndUndirectedRow.holds Try.pinned (OpenSpec.ofChange fnCyclesTransposeAndUndirectedWrong)

end Rows
end Go.Proofs.Qxb6626223a
