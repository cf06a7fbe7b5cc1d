/-
  No cell of these rows narrows 'for every input' (looked for: loops, veiled, ifaces, maps, wideKeys, modest, calm, conditions, laid).
  DERIVED. THE GIVEN ROWS OF THIS SEAT. 2 by the template 'for every input the law returns true; each argument reads behind the call as it read before'; 0 by the template 'total and deterministic' (their statements: Qxb6630305aTotals.lean).
  GIVEN WITH THE SEED: the statements are not yours to turn. If you find one false, say at which input.
  Laid BY PROGRAM, IN A SANDBOX (cutbox-rows.mjs): the forced cells as the released guide's own fill.sh prints them over the translation 4378f45e29bc9b15… (all of the seat's roots in one cut). By AI agents, Wed Nov 11 2026. No macro, syntax, notation, axiom, sorry.
-/
import Derived.Test.Qxb6630305aChecked
import GoSem.Claim
import GoSem.ClaimJoined
import GoSem.ClaimMapViews
import Derived.JoinedTies
import Derived.KernelRfl
namespace Go.Proofs.Qxb6630305a
/- THE CELL 'sum', in the pinned program and in every row, IS THE sha256 OF THE DUMP (.gsa) THAT Qxb6630305aProg.lean LOADS. Nothing in Lean hashes anything: it is a label: what it is worth is what the hold of that sum in a sandbox is worth. -/
noncomputable def Try.pinned : Pinned := { name := "qxb6630305a", sum := "4378f45e29bc9b159fc819bec2d82d9909db7e42cb55bf61a91a71472ec461ff", checked := Try.checked }
namespace Rows
def none {H : Type} : Left H := { results := [], args := [] }

/-- 'zzlaws_labels_b1.FnSumIsFieldwiseTotal': WHATEVER THE INPUT: true; the input reads as it did. -/
def fnSumIsFieldwiseTotalSpec : ChangeSpec := { name := "fnSumIsFieldwiseTotal", fn := fun _ => fun
  | [d] => { results := [.lit (.bool true)], args := [d] }
  | _ => none }
def fnSumIsFieldwiseTotalRow : OpenClaim := { program := "qxb6630305a", sum := "4378f45e29bc9b159fc819bec2d82d9909db7e42cb55bf61a91a71472ec461ff", func := "example.com/stepscope/stepscope/zzlaws_labels_b1.FnSumIsFieldwiseTotal", spec := "fnSumIsFieldwiseTotal", recurses := true, apart := false }
def FnSumIsFieldwiseTotalSaid : Prop := fnSumIsFieldwiseTotalRow.holds Try.pinned (OpenSpec.ofChange fnSumIsFieldwiseTotalSpec)

/-- ITS FALSE NEIGHBOUR: 'it returns false'. Refute it at one input. -/
def fnSumIsFieldwiseTotalWrong : ChangeSpec := { name := "fnSumIsFieldwiseTotal", fn := fun _ => fun
  | [d] => { results := [.lit (.bool false)], args := [d] }
  | _ => none }
def FnSumIsFieldwiseTotalWrongFalsely : Prop := fnSumIsFieldwiseTotalRow.holds Try.pinned (OpenSpec.ofChange fnSumIsFieldwiseTotalWrong)

/-- 'zzlaws_labels_b1.FnSumSplitsAtAnyCut': WHATEVER THE INPUT: true; the input reads as it did. -/
def fnSumSplitsAtAnyCutSpec : ChangeSpec := { name := "fnSumSplitsAtAnyCut", fn := fun _ => fun
  | [d1, d2] => { results := [.lit (.bool true)], args := [d1, d2] }
  | _ => none }
def fnSumSplitsAtAnyCutRow : OpenClaim := { program := "qxb6630305a", sum := "4378f45e29bc9b159fc819bec2d82d9909db7e42cb55bf61a91a71472ec461ff", func := "example.com/stepscope/stepscope/zzlaws_labels_b1.FnSumSplitsAtAnyCut", spec := "fnSumSplitsAtAnyCut", apart := false }
def FnSumSplitsAtAnyCutSaid : Prop := fnSumSplitsAtAnyCutRow.holds Try.pinned (OpenSpec.ofChange fnSumSplitsAtAnyCutSpec)

/-- ITS FALSE NEIGHBOUR: 'it returns false'. Refute it at one input. -/
def fnSumSplitsAtAnyCutWrong : ChangeSpec := { name := "fnSumSplitsAtAnyCut", fn := fun _ => fun
  | [d1, d2] => { results := [.lit (.bool false)], args := [d1, d2] }
  | _ => none }
def FnSumSplitsAtAnyCutWrongFalsely : Prop := fnSumSplitsAtAnyCutRow.holds Try.pinned (OpenSpec.ofChange fnSumSplitsAtAnyCutWrong)

end Rows
end Go.Proofs.Qxb6630305a
