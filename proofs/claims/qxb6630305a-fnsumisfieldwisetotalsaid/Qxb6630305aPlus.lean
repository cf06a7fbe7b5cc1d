import Derived.Test.Qxb6630305aPart
import Derived.BigRegion
import Derived.RegionTactic
namespace Go.Proofs.Qxb6630305a
open Go.RowKit

theorem ccells_get (N : Nat → Int) (r : Bool) (k : Nat) (h : k < 14) : (ccells N r)[k]? = some (.int .i64 (N k)) := by
  match k, h with
  | 0, _ => rfl
  | 1, _ => rfl
  | 2, _ => rfl
  | 3, _ => rfl
  | 4, _ => rfl
  | 5, _ => rfl
  | 6, _ => rfl
  | 7, _ => rfl
  | 8, _ => rfl
  | 9, _ => rfl
  | 10, _ => rfl
  | 11, _ => rfl
  | 12, _ => rfl
  | 13, _ => rfl
  | k + 14, h => exact absurd h (by omega)

/-- the state of zzPlus's loop: k counts are added -/
structure PlusSt (w : World) (Na Nb : Nat → Int) (ra rb : Bool) (k : Nat) (rc : Bool) (wr : World) : Prop where
  bw : Below w.heap.size w wr
  hA : wr.heap[w.heap.size]? = some (.cells (ccells Na ra) 34 (0, 0))
  hB : wr.heap[w.heap.size + 1]? = some (.cells (ccells Nb rb) 34 (0, 0))
  hR : wr.heap[w.heap.size + 2]? = some (.cells (ccells (fun _ => 0) false) 34 (0, 0))
  hC : wr.heap[w.heap.size + 3]? = some (.cells (ccells (fun j => if j < k then wrap64 (Na j + Nb j) else 0) rc) 34 (0, 0))
  size : w.heap.size + 3 < wr.heap.size

theorem ccells_set (N : Nat → Int) (r : Bool) (k : Nat) (h : k < 14) (x : Int) : (ccells N r).setIfInBounds k (.int .i64 x) = ccells (fun j => if j = k then x else N j) r := by
  apply Array.ext_getElem?
  intro i
  rw [Array.getElem?_setIfInBounds]
  have hs : (ccells N r).size = 15 := rfl
  by_cases hi : k = i
  · subst hi
    rw [if_pos rfl, if_pos (by rw [hs]; omega), ccells_get _ _ _ h]
    simp
  · rw [if_neg hi]
    by_cases hlt : i < 14
    · rw [ccells_get _ _ _ hlt, ccells_get _ _ _ hlt, if_neg (fun e => hi e.symm)]
    · by_cases h14 : i = 14
      · subst h14; rfl
      · rw [Array.getElem?_eq_none (by rw [hs]; omega), Array.getElem?_eq_none (by show 15 ≤ i; omega)]

theorem PlusSt.step {w wr : World} {Na Nb : Nat → Int} {ra rb : Bool} {k : Nat} {rc : Bool} (h : PlusSt w Na Nb ra rb k rc wr) (hk : k < 14) :
    PlusSt w Na Nb ra rb (k + 1) rc (wr.setCell ⟨w.heap.size + 3, k, none⟩ (.int .i64 (wrap64 (Na k + Nb k)))).drew := by
  have hz := h.size
  refine ⟨(h.bw.setCell (by show _ ≤ w.heap.size + 3; omega) _).drew, ?_, ?_, ?_, ?_, by show _ < (wr.setCell _ _).heap.size; simp [World.setCell]; omega⟩
  · show (wr.setCell _ _).heap[_]? = _
    rw [heap_setCell_other _ _ _ _ (by show w.heap.size ≠ w.heap.size + 3; omega)]; exact h.hA
  · show (wr.setCell _ _).heap[_]? = _
    rw [heap_setCell_other _ _ _ _ (by show w.heap.size + 1 ≠ w.heap.size + 3; omega)]; exact h.hB
  · show (wr.setCell _ _).heap[_]? = _
    rw [heap_setCell_other _ _ _ _ (by show w.heap.size + 2 ≠ w.heap.size + 3; omega)]; exact h.hR
  · show (wr.setCell _ _).heap[_]? = _
    rw [heap_setCell_same _ _ _ _ _ _ h.hC, ccells_set _ _ _ hk]
    congr 3
    funext j
    by_cases e : j = k
    · subst e; simp
    · rw [if_neg e]
      by_cases hlt : j < k
      · rw [if_pos hlt, if_pos (by omega)]
      · rw [if_neg hlt, if_neg (by omega)]

theorem PlusSt.flag {w wr : World} {Na Nb : Nat → Int} {ra rb : Bool} {k : Nat} {rc : Bool} (h : PlusSt w Na Nb ra rb k rc wr) (r' : Bool) :
    PlusSt w Na Nb ra rb k r' (wr.setCell ⟨w.heap.size + 3, 14, none⟩ (.bool r')) := by
  have hz := h.size
  refine ⟨h.bw.setCell (by show _ ≤ w.heap.size + 3; omega) _, ?_, ?_, ?_, ?_, by simp [World.setCell]; omega⟩
  · rw [heap_setCell_other _ _ _ _ (by show w.heap.size ≠ w.heap.size + 3; omega)]; exact h.hA
  · rw [heap_setCell_other _ _ _ _ (by show w.heap.size + 1 ≠ w.heap.size + 3; omega)]; exact h.hB
  · rw [heap_setCell_other _ _ _ _ (by show w.heap.size + 2 ≠ w.heap.size + 3; omega)]; exact h.hR
  · rw [heap_setCell_same _ _ _ _ _ _ h.hC]
    simp only [ccells, List.setIfInBounds_toArray, List.set_cons_zero, List.set_cons_succ]

theorem PlusSt.start (w : World) (Na Nb : Nat → Int) (ra rb : Bool) :
    PlusSt w Na Nb ra rb 0 false ((((w.alloc (.cells (ccells Na ra) 34)).alloc (.cells (ccells Nb rb) 34)).alloc (.cells (ccells (fun _ => 0) false) 34)).alloc (.cells (ccells (fun _ => 0) false) 34)) := by
  have h3 := heap_alloc3 w (.cells (ccells Na ra) 34) (.cells (ccells Nb rb) 34) (.cells (ccells (fun _ => 0) false) 34)
  refine ⟨((((Below.refl _ _).alloc (Nat.le_refl _) _).alloc (by simp) _).alloc (by simp; omega) _).alloc (by simp; omega) _, ?_, ?_, ?_, ?_, by simp⟩
  · rw [Below.heap_alloc _ _ _ (by simp; omega), Below.heap_alloc _ _ _ (by simp; omega)]; exact heap_alloc2_old _ _ _
  · rw [Below.heap_alloc _ _ _ (by simp)]; exact h3.1
  · rw [Below.heap_alloc _ _ _ (by simp)]; exact h3.2
  · have := heap_alloc_new (((w.alloc (.cells (ccells Na ra) 34)).alloc (.cells (ccells Nb rb) 34)).alloc (.cells (ccells (fun _ => 0) false) 34)) (.cells (ccells (fun _ => 0) false) 34)
    simpa using this

set_option maxHeartbeats 1000000 in
set_option maxRecDepth 100000 in
theorem plus_any (w : World) (Na Nb : Nat → Int) (ra rb : Bool) :
    Calls Try.prog 18 #[.agg (ccells Na ra), .agg (ccells Nb rb)] w fun e w' => e = .returned (.agg (ccells (fun j => wrap64 (Na j + Nb j)) (ra || rb))) ∧ Below w.heap.size w w' := by
  have HS := PlusSt.start w Na Nb ra rb
  unfold ccells
  unfold ccells at HS
  go_enter Try.func18, Try.ntmps18
  go_wp2_with fail
  go_loopw [6] (fun i wr => ∃ k : Nat, k ≤ 14 ∧ i = .int .i64 k ∧ PlusSt w Na Nb ra rb k false wr) (fun i _ => 14 - (intOf i).toNat)
  case atStart => exact ⟨0, by omega, rfl, HS⟩
  case round =>
    clear HS
    obtain ⟨k, hk, rfl, hS⟩ := hrel
    by_cases hlt : k < 14
    · have c1 := (cell_of_row _ _ k _ _ _ hS.hA).trans (ccells_get _ _ _ hlt)
      have c2 := (cell_of_row _ _ k _ _ _ hS.hB).trans (ccells_get _ _ _ hlt)
      have c3 := (cell_of_row _ _ k _ _ _ hS.hC).trans (ccells_get _ _ _ hlt)
      have c4 := frozen_of_row _ _ k _ _ hS.hC
      simp only [Nat.lt_irrefl, if_false] at c3
      have hki : (k : Int) < 14 := by omega
      have hk0 : (0 : Int) ≤ (k : Int) := by omega
      have hS' := hS.step hlt
      have hS0 := hS.size
      clear hS
      go_wp2
      go_region
      go_wp2
      go_roundw
      case rel => exact ⟨k + 1, by omega, by go_num, hS'⟩
      case measure => simp [intOf]; omega
    · have hk14 : k = 14 := by omega
      subst hk14
      have c1 := cell_of_row _ _ 14 _ _ _ hS.hA
      have c2 := cell_of_row _ _ 14 _ _ _ hS.hB
      have c3 := cell_of_row _ _ 14 _ _ _ hS.hC
      have c4 := frozen_of_row _ _ 14 _ _ hS.hC
      simp [ccells] at c1 c2 c3
      have hF := hS.flag (ra || rb)
      have hS0 := hS.size
      have e1 : ccells (fun j => if j < 14 then wrap64 (Na j + Nb j) else 0) (ra || rb) = ccells (fun j => wrap64 (Na j + Nb j)) (ra || rb) := ccells_congr _ (fun j hj => by rw [if_pos hj])
      have hC' := hF.hC
      rw [e1] at hC'
      have HL := LoadsAt.of_block (P := Try.prog) (ty := 34) (cs := (ccells (fun j => wrap64 (Na j + Nb j)) (ra || rb)).toList) hC' (by kernel_rfl) rfl
      have HSt : StoresAt Try.prog (wr.setCell ⟨w.heap.size + 3, 14, none⟩ (.bool (ra || rb))) 34 (w.heap.size + 2) 0 (ccells (fun j => wrap64 (Na j + Nb j)) (ra || rb)).size :=
        ⟨fun j hj => by rw [cell_of_row _ _ _ _ _ _ hF.hR, Nat.zero_add, Array.getElem?_eq_getElem (by exact hj)]; rfl, fun j _ => frozen_of_row _ _ _ _ _ hF.hR, by kernel_rfl⟩
      have hR' := hF.hR
      have hB' := hF.bw
      clear hF hS e1 hC'
      cases ra
      all_goals
        simp only [Bool.false_or, Bool.true_or] at HL HSt hR' hB'
        go_wp2_with (first | ((with_reducible refine HL.use ?_ ?_); rfl) | ((with_reducible refine HSt.use ?_ ?_ ?_ ?_); rfl; rfl; rfl))
        refine bodyPost_ret (results_cell_row (P := Try.prog) Try.results18 _ _ (w.heap.size + 2) 34 _ (0, 0) _ rfl (block_setCells_whole _ hR' rfl) Try.underlying34 rfl (by kernel_rfl)) rfl ⟨?_, below_setCells _ (by omega) _ _ hB'⟩
        simp [ccells]
end Go.Proofs.Qxb6630305a
