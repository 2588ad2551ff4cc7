/-
  No cell of these rows narrows 'for every input' (looked for: loops, veiled, ifaces, maps, wideKeys, modest, calm, conditions, laid).
  DERIVED. THE GIVEN ROWS OF THIS SEAT. 2 by the template 'for every input the law returns true; each argument reads behind the call as it read before'; 0 by the template 'total and deterministic' (their statements: Qxb6630670aTotals.lean).
  GIVEN WITH THE SEED: the statements are not yours to turn. If you find one false, say at which input.
  Laid BY PROGRAM, IN A SANDBOX (cutbox-rows.mjs): the forced cells as the released guide's own fill.sh prints them over the translation 66361c48b0b8b813… (all of the seat's roots in one cut). By AI agents, Wed Nov 11 2026. No macro, syntax, notation, axiom, sorry.
-/
import Derived.Test.Qxb6630670aChecked
import GoSem.Claim
import GoSem.ClaimJoined
import GoSem.ClaimMapViews
import Derived.JoinedTies
import Derived.KernelRfl
namespace Go.Proofs.Qxb6630670a
/- THE CELL 'sum', in the pinned program and in every row, IS THE sha256 OF THE DUMP (.gsa) THAT Qxb6630670aProg.lean LOADS. Nothing in Lean hashes anything: it is a label: what it is worth is what the hold of that sum in a sandbox is worth. -/
noncomputable def Try.pinned : Pinned := { name := "qxb6630670a", sum := "66361c48b0b8b8130685c5fad39fc4205f345ab24c15161aae06e05b87456f96", checked := Try.checked }
namespace Rows
def none {H : Type} : Left H := { results := [], args := [] }

/-- 'zzlaws_internal_rawjson_b1.FnArrayJoinAtAnyCut': WHATEVER THE INPUT: true; the input reads as it did. -/
def fnArrayJoinAtAnyCutSpec : ChangeSpec := { name := "fnArrayJoinAtAnyCut", fn := fun _ => fun
  | [d1, d2] => { results := [.lit (.bool true)], args := [d1, d2] }
  | _ => none }
def fnArrayJoinAtAnyCutRow : OpenClaim := { program := "qxb6630670a", sum := "66361c48b0b8b8130685c5fad39fc4205f345ab24c15161aae06e05b87456f96", func := "example.com/souffleur/souffleur/zzlaws_internal_rawjson_b1.FnArrayJoinAtAnyCut", spec := "fnArrayJoinAtAnyCut", apart := false }
def FnArrayJoinAtAnyCutSaid : Prop := fnArrayJoinAtAnyCutRow.holds Try.pinned (OpenSpec.ofChange fnArrayJoinAtAnyCutSpec)

/-- ITS FALSE NEIGHBOUR: 'it returns false'. Refute it at one input. -/
def fnArrayJoinAtAnyCutWrong : ChangeSpec := { name := "fnArrayJoinAtAnyCut", fn := fun _ => fun
  | [d1, d2] => { results := [.lit (.bool false)], args := [d1, d2] }
  | _ => none }
def FnArrayJoinAtAnyCutWrongFalsely : Prop := fnArrayJoinAtAnyCutRow.holds Try.pinned (OpenSpec.ofChange fnArrayJoinAtAnyCutWrong)

/-- 'zzlaws_internal_rawjson_b1.FnArrayInsertOneAnywhere': WHATEVER THE INPUT: true; the input reads as it did. -/
def fnArrayInsertOneAnywhereSpec : ChangeSpec := { name := "fnArrayInsertOneAnywhere", fn := fun _ => fun
  | [d1, d2, d3] => { results := [.lit (.bool true)], args := [d1, d2, d3] }
  | _ => none }
def fnArrayInsertOneAnywhereRow : OpenClaim := { program := "qxb6630670a", sum := "66361c48b0b8b8130685c5fad39fc4205f345ab24c15161aae06e05b87456f96", func := "example.com/souffleur/souffleur/zzlaws_internal_rawjson_b1.FnArrayInsertOneAnywhere", spec := "fnArrayInsertOneAnywhere", apart := false }
def FnArrayInsertOneAnywhereSaid : Prop := fnArrayInsertOneAnywhereRow.holds Try.pinned (OpenSpec.ofChange fnArrayInsertOneAnywhereSpec)

/-- ITS FALSE NEIGHBOUR: 'it returns false'. Refute it at one input. -/
def fnArrayInsertOneAnywhereWrong : ChangeSpec := { name := "fnArrayInsertOneAnywhere", fn := fun _ => fun
  | [d1, d2, d3] => { results := [.lit (.bool false)], args := [d1, d2, d3] }
  | _ => none }
def FnArrayInsertOneAnywhereWrongFalsely : Prop := fnArrayInsertOneAnywhereRow.holds Try.pinned (OpenSpec.ofChange fnArrayInsertOneAnywhereWrong)

end Rows
end Go.Proofs.Qxb6630670a
