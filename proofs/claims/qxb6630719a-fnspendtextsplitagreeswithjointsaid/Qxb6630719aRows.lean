/-
  No cell of these rows narrows 'for every input' (looked for: loops, veiled, ifaces, maps, wideKeys, modest, calm, conditions, laid).
  DERIVED. THE GIVEN ROWS OF THIS SEAT. 2 by the template 'for every input the law returns true; each argument reads behind the call as it read before'; 0 by the template 'total and deterministic' (their statements: Qxb6630719aTotals.lean).
  GIVEN WITH THE SEED: the statements are not yours to turn. If you find one false, say at which input.
  Laid BY PROGRAM, IN A SANDBOX (cutbox-rows.mjs): the forced cells as the released guide's own fill.sh prints them over the translation fbe85dc1da211613… (all of the seat's roots in one cut). By AI agents, Wed Nov 11 2026. No macro, syntax, notation, axiom, sorry.
-/
import Derived.Test.Qxb6630719aChecked
import GoSem.Claim
import GoSem.ClaimJoined
import GoSem.ClaimMapViews
import Derived.JoinedTies
import Derived.KernelRfl
namespace Go.Proofs.Qxb6630719a
/- THE CELL 'sum', in the pinned program and in every row, IS THE sha256 OF THE DUMP (.gsa) THAT Qxb6630719aProg.lean LOADS. Nothing in Lean hashes anything: it is a label: what it is worth is what the hold of that sum in a sandbox is worth. -/
noncomputable def Try.pinned : Pinned := { name := "qxb6630719a", sum := "fbe85dc1da21161315eff14ba60e2a47c0098e84bfabad2fdb9fbea0b017763c", checked := Try.checked }
namespace Rows
def none {H : Type} : Left H := { results := [], args := [] }

/-- 'zzlaws_internal_regex_b1.FnSpendStepsSplitAgreesWithJoint': WHATEVER THE INPUT: true; the input reads as it did. -/
def fnSpendStepsSplitAgreesWithJointSpec : ChangeSpec := { name := "fnSpendStepsSplitAgreesWithJoint", fn := fun _ => fun
  | [d1, d2, d3, d4, d5] => { results := [.lit (.bool true)], args := [d1, d2, d3, d4, d5] }
  | _ => none }
def fnSpendStepsSplitAgreesWithJointRow : OpenClaim := { program := "qxb6630719a", sum := "fbe85dc1da21161315eff14ba60e2a47c0098e84bfabad2fdb9fbea0b017763c", func := "example.com/helmsmith/helmsmith/zzlaws_internal_regex_b1.FnSpendStepsSplitAgreesWithJoint", spec := "fnSpendStepsSplitAgreesWithJoint", apart := false }
def FnSpendStepsSplitAgreesWithJointSaid : Prop := fnSpendStepsSplitAgreesWithJointRow.holds Try.pinned (OpenSpec.ofChange fnSpendStepsSplitAgreesWithJointSpec)

/-- ITS FALSE NEIGHBOUR: 'it returns false'. Refute it at one input. -/
def fnSpendStepsSplitAgreesWithJointWrong : ChangeSpec := { name := "fnSpendStepsSplitAgreesWithJoint", fn := fun _ => fun
  | [d1, d2, d3, d4, d5] => { results := [.lit (.bool false)], args := [d1, d2, d3, d4, d5] }
  | _ => none }
def FnSpendStepsSplitAgreesWithJointWrongFalsely : Prop := fnSpendStepsSplitAgreesWithJointRow.holds Try.pinned (OpenSpec.ofChange fnSpendStepsSplitAgreesWithJointWrong)

/-- 'zzlaws_internal_regex_b1.FnSpendTextSplitAgreesWithJoint': WHATEVER THE INPUT: true; the input reads as it did. -/
def fnSpendTextSplitAgreesWithJointSpec : ChangeSpec := { name := "fnSpendTextSplitAgreesWithJoint", fn := fun _ => fun
  | [d1, d2, d3, d4, d5] => { results := [.lit (.bool true)], args := [d1, d2, d3, d4, d5] }
  | _ => none }
def fnSpendTextSplitAgreesWithJointRow : OpenClaim := { program := "qxb6630719a", sum := "fbe85dc1da21161315eff14ba60e2a47c0098e84bfabad2fdb9fbea0b017763c", func := "example.com/helmsmith/helmsmith/zzlaws_internal_regex_b1.FnSpendTextSplitAgreesWithJoint", spec := "fnSpendTextSplitAgreesWithJoint", apart := false }
def FnSpendTextSplitAgreesWithJointSaid : Prop := fnSpendTextSplitAgreesWithJointRow.holds Try.pinned (OpenSpec.ofChange fnSpendTextSplitAgreesWithJointSpec)

/-- ITS FALSE NEIGHBOUR: 'it returns false'. Refute it at one input. -/
def fnSpendTextSplitAgreesWithJointWrong : ChangeSpec := { name := "fnSpendTextSplitAgreesWithJoint", fn := fun _ => fun
  | [d1, d2, d3, d4, d5] => { results := [.lit (.bool false)], args := [d1, d2, d3, d4, d5] }
  | _ => none }
def FnSpendTextSplitAgreesWithJointWrongFalsely : Prop := fnSpendTextSplitAgreesWithJointRow.holds Try.pinned (OpenSpec.ofChange fnSpendTextSplitAgreesWithJointWrong)

end Rows
end Go.Proofs.Qxb6630719a
