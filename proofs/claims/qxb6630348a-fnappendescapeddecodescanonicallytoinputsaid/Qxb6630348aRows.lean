/-
  No cell of these rows narrows 'for every input' (looked for: loops, veiled, ifaces, maps, wideKeys, modest, calm, conditions, laid).
  DERIVED. THE GIVEN ROWS OF THIS SEAT. 2 by the template 'for every input the law returns true; each argument reads behind the call as it read before'; 0 by the template 'total and deterministic' (their statements: Qxb6630348aTotals.lean).
  GIVEN WITH THE SEED: the statements are not yours to turn. If you find one false, say at which input.
  Laid BY PROGRAM, IN A SANDBOX (cutbox-rows.mjs): the forced cells as the released guide's own fill.sh prints them over the translation d668f25b4b2e1f7c… (all of the seat's roots in one cut). By AI agents, Wed Nov 11 2026. No macro, syntax, notation, axiom, sorry.
-/
import Derived.Test.Qxb6630348aChecked
import GoSem.Claim
import GoSem.ClaimJoined
import GoSem.ClaimMapViews
import Derived.JoinedTies
import Derived.KernelRfl
namespace Go.Proofs.Qxb6630348a
/- THE CELL 'sum', in the pinned program and in every row, IS THE sha256 OF THE DUMP (.gsa) THAT Qxb6630348aProg.lean LOADS. Nothing in Lean hashes anything: it is a label: what it is worth is what the hold of that sum in a sandbox is worth. -/
noncomputable def Try.pinned : Pinned := { name := "qxb6630348a", sum := "d668f25b4b2e1f7c27996e2e2bda85c09127d32ebdcc2ff8ebe275e53212f978", checked := Try.checked }
namespace Rows
def none {H : Type} : Left H := { results := [], args := [] }

/-- 'zzlaws_root_b1.FnAppendEscapedDecodesCanonicallyToInput': WHATEVER THE INPUT: true; the input reads as it did. -/
def fnAppendEscapedDecodesCanonicallyToInputSpec : ChangeSpec := { name := "fnAppendEscapedDecodesCanonicallyToInput", fn := fun _ => fun
  | [d1, d2] => { results := [.lit (.bool true)], args := [d1, d2] }
  | _ => none }
def fnAppendEscapedDecodesCanonicallyToInputRow : OpenClaim := { program := "qxb6630348a", sum := "d668f25b4b2e1f7c27996e2e2bda85c09127d32ebdcc2ff8ebe275e53212f978", func := "example.com/humble-expr/humble-expr/zzlaws_root_b1.FnAppendEscapedDecodesCanonicallyToInput", spec := "fnAppendEscapedDecodesCanonicallyToInput", apart := false }
def FnAppendEscapedDecodesCanonicallyToInputSaid : Prop := fnAppendEscapedDecodesCanonicallyToInputRow.holds Try.pinned (OpenSpec.ofChange fnAppendEscapedDecodesCanonicallyToInputSpec)

/-- ITS FALSE NEIGHBOUR: 'it returns false'. Refute it at one input. -/
def fnAppendEscapedDecodesCanonicallyToInputWrong : ChangeSpec := { name := "fnAppendEscapedDecodesCanonicallyToInput", fn := fun _ => fun
  | [d1, d2] => { results := [.lit (.bool false)], args := [d1, d2] }
  | _ => none }
def FnAppendEscapedDecodesCanonicallyToInputWrongFalsely : Prop := fnAppendEscapedDecodesCanonicallyToInputRow.holds Try.pinned (OpenSpec.ofChange fnAppendEscapedDecodesCanonicallyToInputWrong)

/-- 'zzlaws_root_b1.FnAppendEscapedSplitsAtAnyCut': WHATEVER THE INPUT: true; the input reads as it did. -/
def fnAppendEscapedSplitsAtAnyCutSpec : ChangeSpec := { name := "fnAppendEscapedSplitsAtAnyCut", fn := fun _ => fun
  | [d1, d2, d3] => { results := [.lit (.bool true)], args := [d1, d2, d3] }
  | _ => none }
def fnAppendEscapedSplitsAtAnyCutRow : OpenClaim := { program := "qxb6630348a", sum := "d668f25b4b2e1f7c27996e2e2bda85c09127d32ebdcc2ff8ebe275e53212f978", func := "example.com/humble-expr/humble-expr/zzlaws_root_b1.FnAppendEscapedSplitsAtAnyCut", spec := "fnAppendEscapedSplitsAtAnyCut", apart := false }
def FnAppendEscapedSplitsAtAnyCutSaid : Prop := fnAppendEscapedSplitsAtAnyCutRow.holds Try.pinned (OpenSpec.ofChange fnAppendEscapedSplitsAtAnyCutSpec)

/-- ITS FALSE NEIGHBOUR: 'it returns false'. Refute it at one input. -/
def fnAppendEscapedSplitsAtAnyCutWrong : ChangeSpec := { name := "fnAppendEscapedSplitsAtAnyCut", fn := fun _ => fun
  | [d1, d2, d3] => { results := [.lit (.bool false)], args := [d1, d2, d3] }
  | _ => none }
def FnAppendEscapedSplitsAtAnyCutWrongFalsely : Prop := fnAppendEscapedSplitsAtAnyCutRow.holds Try.pinned (OpenSpec.ofChange fnAppendEscapedSplitsAtAnyCutWrong)

end Rows
end Go.Proofs.Qxb6630348a
