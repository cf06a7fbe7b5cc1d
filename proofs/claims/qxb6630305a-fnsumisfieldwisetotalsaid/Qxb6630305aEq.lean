import Derived.Test.Qxb6630305aPlain
namespace Go.Proofs.Qxb6630305a
open Go.RowKit

theorem Try.info3s : (Try.prog.info? 3).map (fun i => (i.zero, i.size, i.bytes)) = some (some (.int .i64 0), 1, 8) := by kernel_rfl

theorem equal_arr (w : World) (N : Nat → Int) : (Op.equalIn 9999 32 (.agg #[.int .i64 (N 0), .int .i64 (N 1), .int .i64 (N 2), .int .i64 (N 3), .int .i64 (N 4), .int .i64 (N 5), .int .i64 (N 6), .int .i64 (N 7), .int .i64 (N 8), .int .i64 (N 9), .int .i64 (N 10), .int .i64 (N 11), .int .i64 (N 12), .int .i64 (N 13)])
    (.agg #[.int .i64 (N 0), .int .i64 (N 1), .int .i64 (N 2), .int .i64 (N 3), .int .i64 (N 4), .int .i64 (N 5), .int .i64 (N 6), .int .i64 (N 7), .int .i64 (N 8), .int .i64 (N 9), .int .i64 (N 10), .int .i64 (N 11), .int .i64 (N 12), .int .i64 (N 13)])).run Try.prog w = .ok true w := by
  obtain ⟨i0, hi, hz0, hz1, hz2⟩ := info_parts Try.info3s
  have hp : ∀ (x : Int) (cs : Array Value) (j : Nat) (w : World), cs[j]? = some (.int .i64 x) → (part 3 cs j).run Try.prog w = .ok (.int .i64 x) w := by
    intro x cs j w h
    simp [part, isAgg, run_underlying Try.underlying3, h]
  rw [Op.equalIn]
  simp only [Sem.run_bind, run_underlying Try.underlying32, Result.andThen_ok, sizeOf, typeInfo, Sem.run_pure, Std.Legacy.Range.forIn_eq_forIn_range']
  simp [Std.Legacy.Range.size, List.range', hp, run_equalIn_int, hi, hz1]

theorem equal_counts (w : World) (N : Nat → Int) (r : Bool) : (Op.equalIn 10000 34 (.agg (ccells N r)) (.agg (ccells N r))).run Try.prog w = .ok true w := by
  have h := equal_arr w N
  unfold ccells
  go_simp

theorem neq_counts (w : World) (N : Nat → Int) (r : Bool) : (binOp .neq 34 (.agg (ccells N r)) (.agg (ccells N r))).run Try.prog w = .ok (.bool false) w := by
  rw [run_neq_struct, equal_counts]; rfl

theorem eql_counts (w : World) (N : Nat → Int) (r : Bool) : (binOp .eql 34 (.agg (ccells N r)) (.agg (ccells N r))).run Try.prog w = .ok (.bool true) w := by
  rw [run_eql_struct, equal_counts]; rfl
end Go.Proofs.Qxb6630305a
