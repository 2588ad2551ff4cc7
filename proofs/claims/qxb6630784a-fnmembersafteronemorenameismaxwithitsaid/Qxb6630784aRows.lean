/-
  No cell of these rows narrows 'for every input' (looked for: loops, veiled, ifaces, maps, wideKeys, modest, calm, conditions, laid).
  DERIVED. THE GIVEN ROWS OF THIS SEAT. 2 by the template 'for every input the law returns true; each argument reads behind the call as it read before'; 0 by the template 'total and deterministic' (their statements: Qxb6630784aTotals.lean).
  GIVEN WITH THE SEED: the statements are not yours to turn. If you find one false, say at which input.
  Laid BY PROGRAM, IN A SANDBOX (cutbox-rows.mjs): the forced cells as the released guide's own fill.sh prints them over the translation 36ccd60ef7493825… (all of the seat's roots in one cut). By AI agents, Wed Nov 11 2026. No macro, syntax, notation, axiom, sorry.
-/
import Derived.Test.Qxb6630784aChecked
import GoSem.Claim
import GoSem.ClaimJoined
import GoSem.ClaimMapViews
import Derived.JoinedTies
import Derived.KernelRfl
namespace Go.Proofs.Qxb6630784a
/- THE CELL 'sum', in the pinned program and in every row, IS THE sha256 OF THE DUMP (.gsa) THAT Qxb6630784aProg.lean LOADS. Nothing in Lean hashes anything: it is a label: what it is worth is what the hold of that sum in a sandbox is worth. -/
noncomputable def Try.pinned : Pinned := { name := "qxb6630784a", sum := "36ccd60ef7493825ff0d4e5cf90058bfcd14f7d1f0bf14159445083729413fcf", checked := Try.checked }
namespace Rows
def none {H : Type} : Left H := { results := [], args := [] }

/-- 'zzlaws_internal_workload_b1.FnMembersJoinsAtAnyCutAndIsLeastBound': WHATEVER THE INPUT: true; the input reads as it did. -/
def fnMembersJoinsAtAnyCutAndIsLeastBoundSpec : ChangeSpec := { name := "fnMembersJoinsAtAnyCutAndIsLeastBound", fn := fun _ => fun
  | [d1, d2, d3, d4] => { results := [.lit (.bool true)], args := [d1, d2, d3, d4] }
  | _ => none }
def fnMembersJoinsAtAnyCutAndIsLeastBoundRow : OpenClaim := { program := "qxb6630784a", sum := "36ccd60ef7493825ff0d4e5cf90058bfcd14f7d1f0bf14159445083729413fcf", func := "example.com/antecede/antecede/zzlaws_internal_workload_b1.FnMembersJoinsAtAnyCutAndIsLeastBound", spec := "fnMembersJoinsAtAnyCutAndIsLeastBound", apart := false }
def FnMembersJoinsAtAnyCutAndIsLeastBoundSaid : Prop := fnMembersJoinsAtAnyCutAndIsLeastBoundRow.holds Try.pinned (OpenSpec.ofChange fnMembersJoinsAtAnyCutAndIsLeastBoundSpec)

/-- ITS FALSE NEIGHBOUR: 'it returns false'. Refute it at one input. -/
def fnMembersJoinsAtAnyCutAndIsLeastBoundWrong : ChangeSpec := { name := "fnMembersJoinsAtAnyCutAndIsLeastBound", fn := fun _ => fun
  | [d1, d2, d3, d4] => { results := [.lit (.bool false)], args := [d1, d2, d3, d4] }
  | _ => none }
def FnMembersJoinsAtAnyCutAndIsLeastBoundWrongFalsely : Prop := fnMembersJoinsAtAnyCutAndIsLeastBoundRow.holds Try.pinned (OpenSpec.ofChange fnMembersJoinsAtAnyCutAndIsLeastBoundWrong)

/-- 'zzlaws_internal_workload_b1.FnMembersAfterOneMoreNameIsMaxWithIt': WHATEVER THE INPUT: true; the input reads as it did. -/
def fnMembersAfterOneMoreNameIsMaxWithItSpec : ChangeSpec := { name := "fnMembersAfterOneMoreNameIsMaxWithIt", fn := fun _ => fun
  | [d1, d2, d3, d4, d5, d6, d7] => { results := [.lit (.bool true)], args := [d1, d2, d3, d4, d5, d6, d7] }
  | _ => none }
def fnMembersAfterOneMoreNameIsMaxWithItRow : OpenClaim := { program := "qxb6630784a", sum := "36ccd60ef7493825ff0d4e5cf90058bfcd14f7d1f0bf14159445083729413fcf", func := "example.com/antecede/antecede/zzlaws_internal_workload_b1.FnMembersAfterOneMoreNameIsMaxWithIt", spec := "fnMembersAfterOneMoreNameIsMaxWithIt", apart := false }
def FnMembersAfterOneMoreNameIsMaxWithItSaid : Prop := fnMembersAfterOneMoreNameIsMaxWithItRow.holds Try.pinned (OpenSpec.ofChange fnMembersAfterOneMoreNameIsMaxWithItSpec)

/-- ITS FALSE NEIGHBOUR: 'it returns false'. Refute it at one input. -/
def fnMembersAfterOneMoreNameIsMaxWithItWrong : ChangeSpec := { name := "fnMembersAfterOneMoreNameIsMaxWithIt", fn := fun _ => fun
  | [d1, d2, d3, d4, d5, d6, d7] => { results := [.lit (.bool false)], args := [d1, d2, d3, d4, d5, d6, d7] }
  | _ => none }
def FnMembersAfterOneMoreNameIsMaxWithItWrongFalsely : Prop := fnMembersAfterOneMoreNameIsMaxWithItRow.holds Try.pinned (OpenSpec.ofChange fnMembersAfterOneMoreNameIsMaxWithItWrong)

end Rows
end Go.Proofs.Qxb6630784a
