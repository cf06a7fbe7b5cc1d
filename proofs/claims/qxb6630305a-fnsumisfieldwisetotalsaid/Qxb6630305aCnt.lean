import Derived.Test.Qxb6630305aSum
namespace Go.Proofs.Qxb6630305a
open Go.RowKit

/-- the fifteen cells of a zzCounts -/
def ccells (N : Nat → Int) (r : Bool) : Array Value := #[.int .i64 (N 0), .int .i64 (N 1), .int .i64 (N 2), .int .i64 (N 3), .int .i64 (N 4), .int .i64 (N 5), .int .i64 (N 6), .int .i64 (N 7), .int .i64 (N 8), .int .i64 (N 9), .int .i64 (N 10), .int .i64 (N 11), .int .i64 (N 12), .int .i64 (N 13), .bool r]

theorem heap_alloc3 (w : World) (A B D : Obj) : (((w.alloc A).alloc B).alloc D).heap[w.heap.size + 1]? = some B ∧ (((w.alloc A).alloc B).alloc D).heap[w.heap.size + 2]? = some D := by
  refine ⟨?_, ?_⟩
  · rw [Below.heap_alloc _ _ _ (by simp)]; exact heap_alloc2_new _ _ _
  · have := heap_alloc2_new (w.alloc A) B D
    simpa using this

set_option maxHeartbeats 1000000 in
set_option maxRecDepth 100000 in
theorem countsOfF_any (w : World) (N : Nat → Int) (r : Bool) (a1 a2 a3 : Option Addr) (n1 n2 n3 q1 q2 q3 : Nat) :
    Calls Try.prog 10 #[.agg (fcells N r (.slice a1 n1 q1) (.slice a2 n2 q2) (.slice a3 n3 q3))] w fun e w' => e = .returned (.agg (ccells N r)) ∧ Below w.heap.size w w' := by
  have HH := heap_alloc3 w (.cells (fcells N r (.slice a1 n1 q1) (.slice a2 n2 q2) (.slice a3 n3 q3)) 30) (.cells (ccells (fun _ => 0) false) 34) (.cells (ccells N r) 34)
  have HL := LoadsAt.of_block (P := Try.prog) (ty := 34) (cs := (ccells N r).toList) HH.2 (by kernel_rfl) rfl
  have HS : StoresAt Try.prog (((w.alloc (.cells (fcells N r (.slice a1 n1 q1) (.slice a2 n2 q2) (.slice a3 n3 q3)) 30)).alloc (.cells (ccells (fun _ => 0) false) 34)).alloc (.cells (ccells N r) 34)) 34 (w.heap.size + 1) 0 (ccells N r).size :=
    ⟨fun j hj => by rw [cell_of_row _ _ _ _ _ _ HH.1, Nat.zero_add, Array.getElem?_eq_getElem (by exact hj)]; rfl, fun j _ => frozen_of_row _ _ _ _ _ HH.1, by kernel_rfl⟩
  have HB : Hid ((((w.alloc (.cells (fcells N r (.slice a1 n1 q1) (.slice a2 n2 q2) (.slice a3 n3 q3)) 30)).alloc (.cells (ccells (fun _ => 0) false) 34)).alloc (.cells (ccells N r) 34)).heap[w.heap.size + 1]? = some (.cells (ccells (fun _ => 0) false) 34)) := HH.1
  clear HH
  unfold fcells ccells at *
  go_enter Try.func10, Try.ntmps10
  go_wp2_with (first | ((with_reducible refine HL.use ?_ ?_); rfl) | ((with_reducible refine HS.use ?_ ?_ ?_ ?_); rfl; rfl; rfl))
  refine bodyPost_ret (results_cell_row (P := Try.prog) Try.results10 _ _ (w.heap.size + 1) 34 _ (0, 0) _ rfl (block_setCells_whole _ HB.out rfl) Try.underlying34 rfl (by kernel_rfl)) rfl ⟨rfl, below_setCells _ (by omega) _ _ ((((Below.refl _ _).alloc (Nat.le_refl _) _).alloc (by simp) _).alloc (by simp; omega) _)⟩
set_option maxHeartbeats 1000000 in
set_option maxRecDepth 100000 in
theorem countsOfZ_any (w : World) (N : Nat → Int) (r : Bool) (a1 a2 a3 : Option Addr) (n1 n2 n3 q1 q2 q3 : Nat) :
    Calls Try.prog 13 #[.agg (fcells N r (.slice a1 n1 q1) (.slice a2 n2 q2) (.slice a3 n3 q3))] w fun e w' => e = .returned (.agg (ccells N r)) ∧ Below w.heap.size w w' := by
  have HH := heap_alloc3 w (.cells (fcells N r (.slice a1 n1 q1) (.slice a2 n2 q2) (.slice a3 n3 q3)) 42) (.cells (ccells (fun _ => 0) false) 34) (.cells (ccells N r) 34)
  have HL := LoadsAt.of_block (P := Try.prog) (ty := 34) (cs := (ccells N r).toList) HH.2 (by kernel_rfl) rfl
  have HS : StoresAt Try.prog (((w.alloc (.cells (fcells N r (.slice a1 n1 q1) (.slice a2 n2 q2) (.slice a3 n3 q3)) 42)).alloc (.cells (ccells (fun _ => 0) false) 34)).alloc (.cells (ccells N r) 34)) 34 (w.heap.size + 1) 0 (ccells N r).size :=
    ⟨fun j hj => by rw [cell_of_row _ _ _ _ _ _ HH.1, Nat.zero_add, Array.getElem?_eq_getElem (by exact hj)]; rfl, fun j _ => frozen_of_row _ _ _ _ _ HH.1, by kernel_rfl⟩
  have HB : Hid ((((w.alloc (.cells (fcells N r (.slice a1 n1 q1) (.slice a2 n2 q2) (.slice a3 n3 q3)) 42)).alloc (.cells (ccells (fun _ => 0) false) 34)).alloc (.cells (ccells N r) 34)).heap[w.heap.size + 1]? = some (.cells (ccells (fun _ => 0) false) 34)) := HH.1
  clear HH
  unfold fcells ccells at *
  go_enter Try.func13, Try.ntmps13
  go_wp2_with (first | ((with_reducible refine HL.use ?_ ?_); rfl) | ((with_reducible refine HS.use ?_ ?_ ?_ ?_); rfl; rfl; rfl))
  refine bodyPost_ret (results_cell_row (P := Try.prog) Try.results13 _ _ (w.heap.size + 1) 34 _ (0, 0) _ rfl (block_setCells_whole _ HB.out rfl) Try.underlying34 rfl (by kernel_rfl)) rfl ⟨rfl, below_setCells _ (by omega) _ _ ((((Below.refl _ _).alloc (Nat.le_refl _) _).alloc (by simp) _).alloc (by simp; omega) _)⟩

set_option maxHeartbeats 1000000 in
theorem namesNoStep_any (w : World) (N : Nat → Int) (r : Bool) :
    Calls Try.prog 11 #[.agg (fcells N r (.slice none 0 0) (.slice none 0 0) (.slice none 0 0))] w fun e w' => e = .returned (.bool true) ∧ Below w.heap.size w w' := by
  have h26 : ∀ (w : World) (a : Option Addr) (n c n' c' : Nat), (binOp .eql 26 (.slice a n c) (.slice none n' c')).run Try.prog w = .ok (.bool a.isNone) w := fun w a n c n' c' => Lib.run_eql_slice_nil w _ _ a n c n' c' Try.underlying26
  have h27 : ∀ (w : World) (a : Option Addr) (n c n' c' : Nat), (binOp .eql 27 (.slice a n c) (.slice none n' c')).run Try.prog w = .ok (.bool a.isNone) w := fun w a n c n' c' => Lib.run_eql_slice_nil w _ _ a n c n' c' Try.underlying27
  have h28 : ∀ (w : World) (a : Option Addr) (n c n' c' : Nat), (binOp .eql 28 (.slice a n c) (.slice none n' c')).run Try.prog w = .ok (.bool a.isNone) w := fun w a n c n' c' => Lib.run_eql_slice_nil w _ _ a n c n' c' Try.underlying28
  unfold fcells
  go_enter Try.func11, Try.ntmps11
  go_wp2
  go_ret
  exact ⟨rfl, (Below.refl _ _).alloc (Nat.le_refl _) _⟩

def IntBool (e : Ending) : Prop := ∃ (z : Int) (b : Bool), e = .returned (.tuple #[.int .i64 z, .bool b])
def SomeBool (e : Ending) : Prop := ∃ b : Bool, e = .returned (.bool b)

theorem zzAdd_any (w : World) (x y : Int) :
    Calls Try.prog 14 #[.int .i64 x, .int .i64 y] w fun e w' => IntBool e ∧ w = w' := by
  go_enter Try.func14, Try.ntmps14
  go_wp2
  all_goals (go_ret2; exact ⟨⟨_, _, rfl⟩, rfl⟩)
end Go.Proofs.Qxb6630305a
