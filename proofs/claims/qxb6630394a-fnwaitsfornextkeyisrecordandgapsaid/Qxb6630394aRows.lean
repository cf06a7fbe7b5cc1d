/-
  No cell of these rows narrows 'for every input' (looked for: loops, veiled, ifaces, maps, wideKeys, modest, calm, conditions, laid).
  DERIVED. THE GIVEN ROWS OF THIS SEAT. 2 by the template 'for every input the law returns true; each argument reads behind the call as it read before'; 0 by the template 'total and deterministic' (their statements: Qxb6630394aTotals.lean).
  GIVEN WITH THE SEED: the statements are not yours to turn. If you find one false, say at which input.
  Laid BY PROGRAM, IN A SANDBOX (cutbox-rows.mjs): the forced cells as the released guide's own fill.sh prints them over the translation 94ff3819e74438f3… (all of the seat's roots in one cut). By AI agents, Wed Nov 11 2026. No macro, syntax, notation, axiom, sorry.
-/
import Derived.Test.Qxb6630394aChecked
import GoSem.Claim
import GoSem.ClaimJoined
import GoSem.ClaimMapViews
import Derived.JoinedTies
import Derived.KernelRfl
namespace Go.Proofs.Qxb6630394a
/- THE CELL 'sum', in the pinned program and in every row, IS THE sha256 OF THE DUMP (.gsa) THAT Qxb6630394aProg.lean LOADS. Nothing in Lean hashes anything: it is a label: what it is worth is what the hold of that sum in a sandbox is worth. -/
noncomputable def Try.pinned : Pinned := { name := "qxb6630394a", sum := "94ff3819e74438f3e985797f2dd1cf9df9d9829680b9b8ba3ff617ddc830ed85", checked := Try.checked }
namespace Rows
def none {H : Type} : Left H := { results := [], args := [] }

/-- 'zzlaws_lock_b1.FnWaitsForCoverageOverlap': WHATEVER THE INPUT: true; the input reads as it did. -/
def fnWaitsForCoverageOverlapSpec : ChangeSpec := { name := "fnWaitsForCoverageOverlap", fn := fun _ => fun
  | [d1, d2, d3, d4] => { results := [.lit (.bool true)], args := [d1, d2, d3, d4] }
  | _ => none }
def fnWaitsForCoverageOverlapRow : OpenClaim := { program := "qxb6630394a", sum := "94ff3819e74438f3e985797f2dd1cf9df9d9829680b9b8ba3ff617ddc830ed85", func := "example.com/gapwise/gapwise/zzlaws_lock_b1.FnWaitsForCoverageOverlap", spec := "fnWaitsForCoverageOverlap", apart := false }
def FnWaitsForCoverageOverlapSaid : Prop := fnWaitsForCoverageOverlapRow.holds Try.pinned (OpenSpec.ofChange fnWaitsForCoverageOverlapSpec)

/-- ITS FALSE NEIGHBOUR: 'it returns false'. Refute it at one input. -/
def fnWaitsForCoverageOverlapWrong : ChangeSpec := { name := "fnWaitsForCoverageOverlap", fn := fun _ => fun
  | [d1, d2, d3, d4] => { results := [.lit (.bool false)], args := [d1, d2, d3, d4] }
  | _ => none }
def FnWaitsForCoverageOverlapWrongFalsely : Prop := fnWaitsForCoverageOverlapRow.holds Try.pinned (OpenSpec.ofChange fnWaitsForCoverageOverlapWrong)

/-- 'zzlaws_lock_b1.FnWaitsForNextKeyIsRecordAndGap': WHATEVER THE INPUT: true; the input reads as it did. -/
def fnWaitsForNextKeyIsRecordAndGapSpec : ChangeSpec := { name := "fnWaitsForNextKeyIsRecordAndGap", fn := fun _ => fun
  | [d1, d2, d3, d4] => { results := [.lit (.bool true)], args := [d1, d2, d3, d4] }
  | _ => none }
def fnWaitsForNextKeyIsRecordAndGapRow : OpenClaim := { program := "qxb6630394a", sum := "94ff3819e74438f3e985797f2dd1cf9df9d9829680b9b8ba3ff617ddc830ed85", func := "example.com/gapwise/gapwise/zzlaws_lock_b1.FnWaitsForNextKeyIsRecordAndGap", spec := "fnWaitsForNextKeyIsRecordAndGap", apart := false }
def FnWaitsForNextKeyIsRecordAndGapSaid : Prop := fnWaitsForNextKeyIsRecordAndGapRow.holds Try.pinned (OpenSpec.ofChange fnWaitsForNextKeyIsRecordAndGapSpec)

/-- ITS FALSE NEIGHBOUR: 'it returns false'. Refute it at one input. -/
def fnWaitsForNextKeyIsRecordAndGapWrong : ChangeSpec := { name := "fnWaitsForNextKeyIsRecordAndGap", fn := fun _ => fun
  | [d1, d2, d3, d4] => { results := [.lit (.bool false)], args := [d1, d2, d3, d4] }
  | _ => none }
def FnWaitsForNextKeyIsRecordAndGapWrongFalsely : Prop := fnWaitsForNextKeyIsRecordAndGapRow.holds Try.pinned (OpenSpec.ofChange fnWaitsForNextKeyIsRecordAndGapWrong)

end Rows
end Go.Proofs.Qxb6630394a
