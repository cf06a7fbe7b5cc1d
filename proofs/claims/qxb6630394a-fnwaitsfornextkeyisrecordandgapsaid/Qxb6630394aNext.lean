import Derived.Test.Qxb6630394aNextF
import Derived.Test.Qxb6630394aNextT
namespace Go.Proofs.Qxb6630394a
open Go.RowKit

theorem nextkey_walk (w : World) (a0 a1 a2 a3 : Int) :
    Calls Try.prog 4 #[.int .u8 a0, .int .u8 a1, .int .u8 a2, .int .u8 a3] w fun e w' => e = .returned (.bool true) ∧ Below w.heap.size w w' := by
  have q1 : wf a0 0 a2 a3 = (wf a0 1 a2 a3 || wf a0 2 a2 a3) := by simpa using law_req a0 a2 a3
  have q2 : wf a0 a1 a2 0 = (wf a0 a1 a2 1 || wf a0 a1 a2 2) := by simpa using law_hold a0 a1 a2
  have q3 : wf a0 1 a2 1 = (a0 == 1 || a2 == 1) := by simpa using law_rec a0 a2
  cases v : wf a0 a1 a2 a3
  · exact nextkey_F w a0 a1 a2 a3 _ _ _ _ _ _ q1 rfl rfl q2 rfl rfl v q3 rfl rfl
  · exact nextkey_T w a0 a1 a2 a3 _ _ _ _ _ _ q1 rfl rfl q2 rfl rfl v (law_ex1 _ _ _ _ v) (law_ex2 _ _ _ _ v) q3 rfl rfl
end Go.Proofs.Qxb6630394a
