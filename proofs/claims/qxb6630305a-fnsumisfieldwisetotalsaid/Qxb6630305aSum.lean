import Derived.Test.Qxb6630305aToF
namespace Go.Proofs.Qxb6630305a
open Go.RowKit

def sumTo (c : Nat → Int) : Nat → Int
  | 0 => 0
  | k + 1 => wrap64 (sumTo c k + c k)
def anyTo (r : Nat → Bool) : Nat → Bool
  | 0 => false
  | k + 1 => anyTo r k || r k

/-- a Figures' eighteen cells at ⟨b, off⟩ -/
def FigC (w : World) (b off : Nat) (N : Nat → Int) (r : Bool) : Prop :=
  ∃ (a1 a2 a3 : Option Addr) (n1 n2 n3 q1 q2 q3 : Nat), ∀ j v, (fcells N r (.slice a1 n1 q1) (.slice a2 n2 q2) (.slice a3 n3 q3)).toList[j]? = some v → w.cell? ((⟨b, off, none⟩ : Addr).add j) = some v

theorem FigC.lt {w : World} {b off : Nat} {N : Nat → Int} {r : Bool} (h : FigC w b off N r) : b < w.heap.size := by
  obtain ⟨a1, a2, a3, n1, n2, n3, q1, q2, q3, h⟩ := h
  have := h 0 _ rfl
  rw [add_off] at this
  exact World.block_lt_of_cell? _ _ this

theorem FigC.below {w wr : World} {b off : Nat} {N : Nat → Int} {r : Bool} (h : FigC w b off N r) (hb : Below w.heap.size w wr) : FigC wr b off N r := by
  have hl := h.lt
  obtain ⟨a1, a2, a3, n1, n2, n3, q1, q2, q3, h⟩ := h
  refine ⟨a1, a2, a3, n1, n2, n3, q1, q2, q3, fun j v hj => ?_⟩
  rw [← h j v hj, add_off]
  exact hb.cell (p := ⟨b, off + j, none⟩) hl

def FigsIn (w : World) (v : Value) (m : Nat) (C : Nat → Nat → Int) (R : Nat → Bool) : Prop :=
  ∃ (ao : Option Addr) (c : Nat), v = .slice ao m c ∧ m ≤ 1000000000000 ∧ (0 < m → ∃ b off, ao = some ⟨b, off, none⟩ ∧ ∀ i, i < m → FigC w b (off + i * 18) (C i) (R i))

/-- the state of Sum's loop: block S - 1 the result's, block S the sum's -/
structure SumSt (w : World) (N : Nat → Int) (r : Bool) (wr : World) : Prop where
  bw : Below w.heap.size w wr
  hR : wr.heap[w.heap.size]? = some (.cells (fcells (fun _ => 0) false (.slice none 0 0) (.slice none 0 0) (.slice none 0 0)) 30 (0, 0))
  hS : wr.heap[w.heap.size + 1]? = some (.cells (fcells N r (.slice none 0 0) (.slice none 0 0) (.slice none 0 0)) 30 (0, 0))
  size : w.heap.size + 1 < wr.heap.size


theorem SumSt.add {w wr : World} {N : Nat → Int} {r : Bool} (h : SumSt w N r wr) (c : Nat → Int) (r' : Bool) (o : Obj) :
    SumSt w (fun j => wrap64 (N j + c j)) r' ((((((((((((((((wr.setCell ⟨w.heap.size + 1, 0, none⟩ (.int .i64 (wrap64 (N 0 + c 0)))).setCell ⟨w.heap.size + 1, 1, none⟩ (.int .i64 (wrap64 (N 1 + c 1)))).setCell ⟨w.heap.size + 1, 2, none⟩ (.int .i64 (wrap64 (N 2 + c 2)))).setCell ⟨w.heap.size + 1, 3, none⟩ (.int .i64 (wrap64 (N 3 + c 3)))).setCell ⟨w.heap.size + 1, 4, none⟩ (.int .i64 (wrap64 (N 4 + c 4)))).setCell ⟨w.heap.size + 1, 5, none⟩ (.int .i64 (wrap64 (N 5 + c 5)))).setCell ⟨w.heap.size + 1, 6, none⟩ (.int .i64 (wrap64 (N 6 + c 6)))).setCell ⟨w.heap.size + 1, 7, none⟩ (.int .i64 (wrap64 (N 7 + c 7)))).setCell ⟨w.heap.size + 1, 8, none⟩ (.int .i64 (wrap64 (N 8 + c 8)))).setCell ⟨w.heap.size + 1, 9, none⟩ (.int .i64 (wrap64 (N 9 + c 9)))).setCell ⟨w.heap.size + 1, 10, none⟩ (.int .i64 (wrap64 (N 10 + c 10)))).setCell ⟨w.heap.size + 1, 11, none⟩ (.int .i64 (wrap64 (N 11 + c 11)))).setCell ⟨w.heap.size + 1, 12, none⟩ (.int .i64 (wrap64 (N 12 + c 12)))).setCell ⟨w.heap.size + 1, 13, none⟩ (.int .i64 (wrap64 (N 13 + c 13)))).setCell ⟨w.heap.size + 1, 14, none⟩ (.bool r')).alloc o) := by
  have hz := h.size
  have step : ∀ (wx : World) (cs : Array Value) (j : Nat) (v : Value), (Below w.heap.size w wx ∧ wx.heap[w.heap.size]? = some (.cells (fcells (fun _ => 0) false (.slice none 0 0) (.slice none 0 0) (.slice none 0 0)) 30 (0, 0)) ∧ wx.heap[w.heap.size + 1]? = some (.cells cs 30 (0, 0)) ∧ w.heap.size + 1 < wx.heap.size) →
      (Below w.heap.size w (wx.setCell ⟨w.heap.size + 1, j, none⟩ v) ∧ (wx.setCell ⟨w.heap.size + 1, j, none⟩ v).heap[w.heap.size]? = some (.cells (fcells (fun _ => 0) false (.slice none 0 0) (.slice none 0 0) (.slice none 0 0)) 30 (0, 0)) ∧ (wx.setCell ⟨w.heap.size + 1, j, none⟩ v).heap[w.heap.size + 1]? = some (.cells (cs.setIfInBounds j v) 30 (0, 0)) ∧ w.heap.size + 1 < (wx.setCell ⟨w.heap.size + 1, j, none⟩ v).heap.size) := by
    rintro wx cs j v ⟨h1, h2, h3, h4⟩
    exact ⟨h1.setCell (by show _ ≤ w.heap.size + 1; omega) v, by rw [heap_setCell_other _ _ _ _ (by show w.heap.size ≠ w.heap.size + 1; omega)]; exact h2, heap_setCell_same _ _ _ _ _ _ h3, by simp [World.setCell]; omega⟩
  have q := step _ _ 14 (.bool r') (step _ _ 13 (.int .i64 (wrap64 (N 13 + c 13))) (step _ _ 12 (.int .i64 (wrap64 (N 12 + c 12))) (step _ _ 11 (.int .i64 (wrap64 (N 11 + c 11))) (step _ _ 10 (.int .i64 (wrap64 (N 10 + c 10))) (step _ _ 9 (.int .i64 (wrap64 (N 9 + c 9))) (step _ _ 8 (.int .i64 (wrap64 (N 8 + c 8))) (step _ _ 7 (.int .i64 (wrap64 (N 7 + c 7))) (step _ _ 6 (.int .i64 (wrap64 (N 6 + c 6))) (step _ _ 5 (.int .i64 (wrap64 (N 5 + c 5))) (step _ _ 4 (.int .i64 (wrap64 (N 4 + c 4))) (step _ _ 3 (.int .i64 (wrap64 (N 3 + c 3))) (step _ _ 2 (.int .i64 (wrap64 (N 2 + c 2))) (step _ _ 1 (.int .i64 (wrap64 (N 1 + c 1))) (step _ _ 0 (.int .i64 (wrap64 (N 0 + c 0))) ⟨h.bw, h.hR, h.hS, h.size⟩))))))))))))))
  clear step
  obtain ⟨q1, q2, q3, q4⟩ := q
  refine ⟨q1.alloc (by omega) _, ?_, ?_, by simp; omega⟩
  · rw [Below.heap_alloc _ _ _ (by omega)]; exact q2
  · rw [Below.heap_alloc _ _ _ (by omega), q3]
    simp only [fcells, List.setIfInBounds_toArray, List.set_cons_zero, List.set_cons_succ]

set_option maxHeartbeats 1000000 in
set_option maxRecDepth 100000 in
theorem sum_any (w : World) (v : Value) (m : Nat) (C : Nat → Nat → Int) (R : Nat → Bool) (h : FigsIn w v m C R) :
    Calls Try.prog 8 #[v] w fun e w' => e = .returned (.agg (fcells (fun j => sumTo (fun i => C i j) m) (anyTo R m) (.slice none 0 0) (.slice none 0 0) (.slice none 0 0))) ∧ Below w.heap.size w w' := by
  obtain ⟨ao, c, rfl, hm, hc⟩ := h
  go_enter Try.func8, Try.ntmps8
  go_wp2
  go_loopw [8] (fun i wr => ∃ k : Nat, k ≤ m ∧ i = .int .i64 k ∧ SumSt w (fun j => sumTo (fun i => C i j) k) (anyTo R k) wr) (fun i _ => m - (intOf i).toNat)
  case atStart => exact ⟨0, Nat.zero_le _, rfl, ⟨((Below.refl _ _).alloc (Nat.le_refl _) _).alloc (by simp) _, heap_alloc2_old _ _ _, heap_alloc2_new _ _ _, by simp⟩⟩
  case round =>
    obtain ⟨k, hk, rfl, hS⟩ := hrel
    by_cases hlt : k < m
    · obtain ⟨b, off, ha, hcell⟩ := hc (by omega)
      cases ha
      obtain ⟨a1, a2, a3, n1, n2, n3, q1, q2, q3, hld⟩ := (hcell k hlt).below hS.bw
      have HL : LoadsAt Try.prog wr 30 ⟨b, off + k * 18, none⟩ (fcells (C k) (R k) (.slice a1 n1 q1) (.slice a2 n2 q2) (.slice a3 n3 q3)).toList := ⟨hld, by kernel_rfl, by kernel_rfl⟩
      obtain ⟨N, HN⟩ : ∃ N, Hid (N = fun j => sumTo (fun i => C i j) k) := ⟨_, rfl⟩
      obtain ⟨r, HR⟩ : ∃ r, Hid (r = anyTo R k) := ⟨_, rfl⟩
      rw [← HN.out, ← HR.out] at hS
      have hz := hS.size
      have s0 := cell_of_row _ _ 0 _ _ _ hS.hS
      have s1 := cell_of_row _ _ 1 _ _ _ hS.hS
      have s2 := cell_of_row _ _ 2 _ _ _ hS.hS
      have s3 := cell_of_row _ _ 3 _ _ _ hS.hS
      have s4 := cell_of_row _ _ 4 _ _ _ hS.hS
      have s5 := cell_of_row _ _ 5 _ _ _ hS.hS
      have s6 := cell_of_row _ _ 6 _ _ _ hS.hS
      have s7 := cell_of_row _ _ 7 _ _ _ hS.hS
      have s8 := cell_of_row _ _ 8 _ _ _ hS.hS
      have s9 := cell_of_row _ _ 9 _ _ _ hS.hS
      have s10 := cell_of_row _ _ 10 _ _ _ hS.hS
      have s11 := cell_of_row _ _ 11 _ _ _ hS.hS
      have s12 := cell_of_row _ _ 12 _ _ _ hS.hS
      have s13 := cell_of_row _ _ 13 _ _ _ hS.hS
      have s14 := cell_of_row _ _ 14 _ _ _ hS.hS
      have zz := fun j => frozen_of_row _ _ j _ _ hS.hS
      unfold fcells at HL
      simp [fcells] at s0 s1 s2 s3 s4 s5 s6 s7 s8 s9 s10 s11 s12 s13 s14
      clear hcell hld hc
      cases r
      all_goals
        go_wp2_with (first | ((with_reducible refine HL.use ?_ ?_); rfl) | ((with_reducible refine at_store_new (c' := (#[.int .i64 (C k 0), .int .i64 (C k 1), .int .i64 (C k 2), .int .i64 (C k 3), .int .i64 (C k 4), .int .i64 (C k 5), .int .i64 (C k 6), .int .i64 (C k 7), .int .i64 (C k 8), .int .i64 (C k 9), .int .i64 (C k 10), .int .i64 (C k 11), .int .i64 (C k 12), .int .i64 (C k 13), .bool (R k), .slice a1 n1 q1, .slice a2 n2 q2, .slice a3 n3 q3] : Array Value)) ?_ ?_ ?_ ?_ ?_ ?_); rfl; rfl; kernel_rfl; rfl; rfl))
        go_roundw
        case rel =>
          refine ⟨k + 1, by omega, by go_num, ?_⟩
          have e1 : (fun j => sumTo (fun i => C i j) (k + 1)) = fun j => wrap64 (N j + C k j) := by rw [HN.out]; rfl
          have e2 : anyTo R (k + 1) = (anyTo R k || R k) := rfl
          rw [e1, e2, ← HR.out]
          exact hS.add (C k) _ _
        case measure => simp [intOf]; omega
    · have hkm : k = m := by omega
      subst hkm
      have HL := LoadsAt.of_block (P := Try.prog) (ty := 30) (cs := (fcells (fun j => sumTo (fun i => C i j) k) (anyTo R k) (.slice none 0 0) (.slice none 0 0) (.slice none 0 0)).toList) hS.hS (by kernel_rfl) rfl
      have HS : StoresAt Try.prog wr 30 w.heap.size 0 (fcells (fun j => sumTo (fun i => C i j) k) (anyTo R k) (.slice none 0 0) (.slice none 0 0) (.slice none 0 0)).size :=
        ⟨fun j hj => by rw [cell_of_row _ _ _ _ _ _ hS.hR, Nat.zero_add, Array.getElem?_eq_getElem (by exact hj)]; rfl, fun j _ => frozen_of_row _ _ _ _ _ hS.hR, by kernel_rfl⟩
      go_wp2_with (first | ((with_reducible refine HL.use ?_ ?_); rfl) | ((with_reducible refine HS.use ?_ ?_ ?_ ?_); rfl; rfl; rfl))
      have hz := hS.size
      refine bodyPost_ret (results_cell_row (P := Try.prog) Try.results8 _ _ w.heap.size 30 _ (0, 0) _ rfl (block_setCells_whole _ hS.hR rfl) Try.underlying30 rfl (by kernel_rfl)) rfl ⟨rfl, below_setCells _ (Nat.le_refl _) _ _ hS.bw⟩
end Go.Proofs.Qxb6630305a
