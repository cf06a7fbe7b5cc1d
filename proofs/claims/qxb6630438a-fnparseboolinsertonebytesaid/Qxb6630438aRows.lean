/-
  No cell of these rows narrows 'for every input' (looked for: loops, veiled, ifaces, maps, wideKeys, modest, calm, conditions, laid).
  DERIVED. THE GIVEN ROWS OF THIS SEAT. 2 by the template 'for every input the law returns true; each argument reads behind the call as it read before'; 0 by the template 'total and deterministic' (their statements: Qxb6630438aTotals.lean).
  GIVEN WITH THE SEED: the statements are not yours to turn. If you find one false, say at which input.
  Laid BY PROGRAM, IN A SANDBOX (cutbox-rows.mjs): the forced cells as the released guide's own fill.sh prints them over the translation 516ec0dea5987fe9… (all of the seat's roots in one cut). By AI agents, Wed Nov 11 2026. No macro, syntax, notation, axiom, sorry.
-/
import Derived.Test.Qxb6630438aChecked
import GoSem.Claim
import GoSem.ClaimJoined
import GoSem.ClaimMapViews
import Derived.JoinedTies
import Derived.KernelRfl
namespace Go.Proofs.Qxb6630438a
/- THE CELL 'sum', in the pinned program and in every row, IS THE sha256 OF THE DUMP (.gsa) THAT Qxb6630438aProg.lean LOADS. Nothing in Lean hashes anything: it is a label: what it is worth is what the hold of that sum in a sandbox is worth. -/
noncomputable def Try.pinned : Pinned := { name := "qxb6630438a", sum := "516ec0dea5987fe9a12d872d24ff74718de8c4980f2d2f5a4952809a089c45a1", checked := Try.checked }
namespace Rows
def none {H : Type} : Left H := { results := [], args := [] }

/-- 'zzlaws_internal_lpsyntax_b1.FnParseBoolCaseFold': WHATEVER THE INPUT: true; the input reads as it did. -/
def fnParseBoolCaseFoldSpec : ChangeSpec := { name := "fnParseBoolCaseFold", fn := fun _ => fun
  | [d] => { results := [.lit (.bool true)], args := [d] }
  | _ => none }
def fnParseBoolCaseFoldRow : OpenClaim := { program := "qxb6630438a", sum := "516ec0dea5987fe9a12d872d24ff74718de8c4980f2d2f5a4952809a089c45a1", func := "example.com/pointform/pointform/zzlaws_internal_lpsyntax_b1.FnParseBoolCaseFold", spec := "fnParseBoolCaseFold", apart := false }
def FnParseBoolCaseFoldSaid : Prop := fnParseBoolCaseFoldRow.holds Try.pinned (OpenSpec.ofChange fnParseBoolCaseFoldSpec)

/-- ITS FALSE NEIGHBOUR: 'it returns false'. Refute it at one input. -/
def fnParseBoolCaseFoldWrong : ChangeSpec := { name := "fnParseBoolCaseFold", fn := fun _ => fun
  | [d] => { results := [.lit (.bool false)], args := [d] }
  | _ => none }
def FnParseBoolCaseFoldWrongFalsely : Prop := fnParseBoolCaseFoldRow.holds Try.pinned (OpenSpec.ofChange fnParseBoolCaseFoldWrong)

/-- 'zzlaws_internal_lpsyntax_b1.FnParseBoolInsertOneByte': WHATEVER THE INPUT: true; the input reads as it did. -/
def fnParseBoolInsertOneByteSpec : ChangeSpec := { name := "fnParseBoolInsertOneByte", fn := fun _ => fun
  | [d1, d2, d3] => { results := [.lit (.bool true)], args := [d1, d2, d3] }
  | _ => none }
def fnParseBoolInsertOneByteRow : OpenClaim := { program := "qxb6630438a", sum := "516ec0dea5987fe9a12d872d24ff74718de8c4980f2d2f5a4952809a089c45a1", func := "example.com/pointform/pointform/zzlaws_internal_lpsyntax_b1.FnParseBoolInsertOneByte", spec := "fnParseBoolInsertOneByte", apart := false }
def FnParseBoolInsertOneByteSaid : Prop := fnParseBoolInsertOneByteRow.holds Try.pinned (OpenSpec.ofChange fnParseBoolInsertOneByteSpec)

/-- ITS FALSE NEIGHBOUR: 'it returns false'. Refute it at one input. -/
def fnParseBoolInsertOneByteWrong : ChangeSpec := { name := "fnParseBoolInsertOneByte", fn := fun _ => fun
  | [d1, d2, d3] => { results := [.lit (.bool false)], args := [d1, d2, d3] }
  | _ => none }
def FnParseBoolInsertOneByteWrongFalsely : Prop := fnParseBoolInsertOneByteRow.holds Try.pinned (OpenSpec.ofChange fnParseBoolInsertOneByteWrong)

end Rows
end Go.Proofs.Qxb6630438a
