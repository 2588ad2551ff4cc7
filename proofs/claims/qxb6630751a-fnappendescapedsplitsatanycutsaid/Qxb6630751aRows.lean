/-
  No cell of these rows narrows 'for every input' (looked for: loops, veiled, ifaces, maps, wideKeys, modest, calm, conditions, laid).
  DERIVED. THE GIVEN ROWS OF THIS SEAT. 2 by the template 'for every input the law returns true; each argument reads behind the call as it read before'; 0 by the template 'total and deterministic' (their statements: Qxb6630751aTotals.lean).
  GIVEN WITH THE SEED: the statements are not yours to turn. If you find one false, say at which input.
  Laid BY PROGRAM, IN A SANDBOX (cutbox-rows.mjs): the forced cells as the released guide's own fill.sh prints them over the translation 4be4d84b040a760d… (all of the seat's roots in one cut). By AI agents, Wed Nov 11 2026. No macro, syntax, notation, axiom, sorry.
-/
import Derived.Test.Qxb6630751aChecked
import GoSem.Claim
import GoSem.ClaimJoined
import GoSem.ClaimMapViews
import Derived.JoinedTies
import Derived.KernelRfl
namespace Go.Proofs.Qxb6630751a
/- THE CELL 'sum', in the pinned program and in every row, IS THE sha256 OF THE DUMP (.gsa) THAT Qxb6630751aProg.lean LOADS. Nothing in Lean hashes anything: it is a label: what it is worth is what the hold of that sum in a sandbox is worth. -/
noncomputable def Try.pinned : Pinned := { name := "qxb6630751a", sum := "4be4d84b040a760d7e33f263611225fba715db0902a8983b11e5811983ff4aef", checked := Try.checked }
namespace Rows
def none {H : Type} : Left H := { results := [], args := [] }

/-- 'zzlaws_baggage_b1.FnAppendEscapedDecodesBackCanonically': WHATEVER THE INPUT: true; the input reads as it did. -/
def fnAppendEscapedDecodesBackCanonicallySpec : ChangeSpec := { name := "fnAppendEscapedDecodesBackCanonically", fn := fun _ => fun
  | [d1, d2] => { results := [.lit (.bool true)], args := [d1, d2] }
  | _ => none }
def fnAppendEscapedDecodesBackCanonicallyRow : OpenClaim := { program := "qxb6630751a", sum := "4be4d84b040a760d7e33f263611225fba715db0902a8983b11e5811983ff4aef", func := "example.com/wakeline/wakeline/zzlaws_baggage_b1.FnAppendEscapedDecodesBackCanonically", spec := "fnAppendEscapedDecodesBackCanonically", apart := false }
def FnAppendEscapedDecodesBackCanonicallySaid : Prop := fnAppendEscapedDecodesBackCanonicallyRow.holds Try.pinned (OpenSpec.ofChange fnAppendEscapedDecodesBackCanonicallySpec)

/-- ITS FALSE NEIGHBOUR: 'it returns false'. Refute it at one input. -/
def fnAppendEscapedDecodesBackCanonicallyWrong : ChangeSpec := { name := "fnAppendEscapedDecodesBackCanonically", fn := fun _ => fun
  | [d1, d2] => { results := [.lit (.bool false)], args := [d1, d2] }
  | _ => none }
def FnAppendEscapedDecodesBackCanonicallyWrongFalsely : Prop := fnAppendEscapedDecodesBackCanonicallyRow.holds Try.pinned (OpenSpec.ofChange fnAppendEscapedDecodesBackCanonicallyWrong)

/-- 'zzlaws_baggage_b1.FnAppendEscapedSplitsAtAnyCut': WHATEVER THE INPUT: true; the input reads as it did. -/
def fnAppendEscapedSplitsAtAnyCutSpec : ChangeSpec := { name := "fnAppendEscapedSplitsAtAnyCut", fn := fun _ => fun
  | [d1, d2, d3] => { results := [.lit (.bool true)], args := [d1, d2, d3] }
  | _ => none }
def fnAppendEscapedSplitsAtAnyCutRow : OpenClaim := { program := "qxb6630751a", sum := "4be4d84b040a760d7e33f263611225fba715db0902a8983b11e5811983ff4aef", func := "example.com/wakeline/wakeline/zzlaws_baggage_b1.FnAppendEscapedSplitsAtAnyCut", spec := "fnAppendEscapedSplitsAtAnyCut", apart := false }
def FnAppendEscapedSplitsAtAnyCutSaid : Prop := fnAppendEscapedSplitsAtAnyCutRow.holds Try.pinned (OpenSpec.ofChange fnAppendEscapedSplitsAtAnyCutSpec)

/-- ITS FALSE NEIGHBOUR: 'it returns false'. Refute it at one input. -/
def fnAppendEscapedSplitsAtAnyCutWrong : ChangeSpec := { name := "fnAppendEscapedSplitsAtAnyCut", fn := fun _ => fun
  | [d1, d2, d3] => { results := [.lit (.bool false)], args := [d1, d2, d3] }
  | _ => none }
def FnAppendEscapedSplitsAtAnyCutWrongFalsely : Prop := fnAppendEscapedSplitsAtAnyCutRow.holds Try.pinned (OpenSpec.ofChange fnAppendEscapedSplitsAtAnyCutWrong)

end Rows
end Go.Proofs.Qxb6630751a
