/-
  No cell of these rows narrows 'for every input' (looked for: loops, veiled, ifaces, maps, wideKeys, modest, calm, conditions, laid).
  DERIVED. THE GIVEN ROWS OF THIS SEAT. 2 by the template 'for every input the law returns true; each argument reads behind the call as it read before'; 0 by the template 'total and deterministic' (their statements: Qxb6625896aTotals.lean).
  GIVEN WITH THE SEED: the statements are not yours to turn. If you find one false, say at which input.
  Laid BY PROGRAM, IN A SANDBOX (cutbox-rows.mjs): the forced cells as the released guide's own fill.sh prints them over the translation 73e254e42cefe5dc… (all of the seat's roots in one cut). By AI agents, Wed Nov 11 2026. No macro, syntax, notation, axiom, sorry.
-/
import Derived.Test.Qxb6625896aChecked
import GoSem.Claim
import GoSem.ClaimJoined
import GoSem.ClaimMapViews
import Derived.JoinedTies
import Derived.KernelRfl
namespace Go.Proofs.Qxb6625896a
/- THE CELL 'sum', in the pinned program and in every row, IS THE sha256 OF THE DUMP (.gsa) THAT Qxb6625896aProg.lean LOADS. Nothing in Lean hashes anything: it is a label: what it is worth is what the hold of that sum in a sandbox is worth. -/
noncomputable def Try.pinned : Pinned := { name := "qxb6625896a", sum := "73e254e42cefe5dc28b9f6700bb1da49ececfc774d4aaa75fda3925c1aa38b1c", checked := Try.checked }
namespace Rows
def none {H : Type} : Left H := { results := [], args := [] }

/-- 'zzlaws_root_b1.FnMarkLateRetiresFirstDueUpToBudgetAndIsStable': WHATEVER THE INPUT: true; the input reads as it did. -/
def fnMarkLateRetiresFirstDueUpToBudgetAndIsStableSpec : ChangeSpec := { name := "fnMarkLateRetiresFirstDueUpToBudgetAndIsStable", fn := fun _ => fun
  | [d1, d2, d3, d4] => { results := [.lit (.bool true)], args := [d1, d2, d3, d4] }
  | _ => none }
def fnMarkLateRetiresFirstDueUpToBudgetAndIsStableRow : OpenClaim := { program := "qxb6625896a", sum := "73e254e42cefe5dc28b9f6700bb1da49ececfc774d4aaa75fda3925c1aa38b1c", func := "example.com/bucketwarden/bucketwarden/zzlaws_root_b1.FnMarkLateRetiresFirstDueUpToBudgetAndIsStable", spec := "fnMarkLateRetiresFirstDueUpToBudgetAndIsStable", unfollowed := true, recurses := true, apart := false }
def FnMarkLateRetiresFirstDueUpToBudgetAndIsStableSaid : Prop := fnMarkLateRetiresFirstDueUpToBudgetAndIsStableRow.holds Try.pinned (OpenSpec.ofChange fnMarkLateRetiresFirstDueUpToBudgetAndIsStableSpec)

/-- ITS FALSE NEIGHBOUR: 'it returns false'. Refute it at one input. -/
def fnMarkLateRetiresFirstDueUpToBudgetAndIsStableWrong : ChangeSpec := { name := "fnMarkLateRetiresFirstDueUpToBudgetAndIsStable", fn := fun _ => fun
  | [d1, d2, d3, d4] => { results := [.lit (.bool false)], args := [d1, d2, d3, d4] }
  | _ => none }
def FnMarkLateRetiresFirstDueUpToBudgetAndIsStableWrongFalsely : Prop := fnMarkLateRetiresFirstDueUpToBudgetAndIsStableRow.holds Try.pinned (OpenSpec.ofChange fnMarkLateRetiresFirstDueUpToBudgetAndIsStableWrong)

/-- 'zzlaws_root_b1.FnMarkLateAgreesOverAnyCutOfTheHeldChecks': WHATEVER THE INPUT: true; the input reads as it did. -/
def fnMarkLateAgreesOverAnyCutOfTheHeldChecksSpec : ChangeSpec := { name := "fnMarkLateAgreesOverAnyCutOfTheHeldChecks", fn := fun _ => fun
  | [d1, d2, d3, d4, d5] => { results := [.lit (.bool true)], args := [d1, d2, d3, d4, d5] }
  | _ => none }
def fnMarkLateAgreesOverAnyCutOfTheHeldChecksRow : OpenClaim := { program := "qxb6625896a", sum := "73e254e42cefe5dc28b9f6700bb1da49ececfc774d4aaa75fda3925c1aa38b1c", func := "example.com/bucketwarden/bucketwarden/zzlaws_root_b1.FnMarkLateAgreesOverAnyCutOfTheHeldChecks", spec := "fnMarkLateAgreesOverAnyCutOfTheHeldChecks", unfollowed := true, recurses := true, apart := false }
def FnMarkLateAgreesOverAnyCutOfTheHeldChecksSaid : Prop := fnMarkLateAgreesOverAnyCutOfTheHeldChecksRow.holds Try.pinned (OpenSpec.ofChange fnMarkLateAgreesOverAnyCutOfTheHeldChecksSpec)

/-- ITS FALSE NEIGHBOUR: 'it returns false'. Refute it at one input. -/
def fnMarkLateAgreesOverAnyCutOfTheHeldChecksWrong : ChangeSpec := { name := "fnMarkLateAgreesOverAnyCutOfTheHeldChecks", fn := fun _ => fun
  | [d1, d2, d3, d4, d5] => { results := [.lit (.bool false)], args := [d1, d2, d3, d4, d5] }
  | _ => none }
def FnMarkLateAgreesOverAnyCutOfTheHeldChecksWrongFalsely : Prop := fnMarkLateAgreesOverAnyCutOfTheHeldChecksRow.holds Try.pinned (OpenSpec.ofChange fnMarkLateAgreesOverAnyCutOfTheHeldChecksWrong)

end Rows
end Go.Proofs.Qxb6625896a
