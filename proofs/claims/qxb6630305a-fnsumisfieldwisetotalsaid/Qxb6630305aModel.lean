import Derived.Test.Qxb6630305aPlus
namespace Go.Proofs.Qxb6630305a
open Go.RowKit

/-- the totals of d figures from 'lo' on, as a zzCounts -/
def Tot (C : Nat → Nat → Int) (R : Nat → Bool) (lo d : Nat) : Array Value := ccells (fun j => sumTo (fun i => C (lo + i) j) d) (anyTo (fun i => R (lo + i)) d)

theorem Tot_zero (C : Nat → Nat → Int) (R : Nat → Bool) (lo : Nat) : Tot C R lo 0 = ccells (fun _ => 0) false := rfl

theorem Tot_one (C : Nat → Nat → Int) (R : Nat → Bool) (lo : Nat) (hC : ∀ j, j < 14 → -9223372036854775808 ≤ C lo j ∧ C lo j ≤ 9223372036854775807) : Tot C R lo 1 = ccells (C lo) (R lo) := by
  unfold Tot
  have hr : anyTo (fun i => R (lo + i)) 1 = R lo := by simp [anyTo]
  rw [hr]
  refine ccells_congr _ fun j hj => ?_
  show wrap64 (0 + C lo j) = C lo j
  rw [Int.zero_add, wrap64_of_range (hC j hj)]

theorem Tot_add (C : Nat → Nat → Int) (R : Nat → Bool) (lo d d' : Nat) :
    ccells (fun j => wrap64 (sumTo (fun i => C (lo + i) j) d + sumTo (fun i => C (lo + d + i) j) d')) (anyTo (fun i => R (lo + i)) d || anyTo (fun i => R (lo + d + i)) d') = Tot C R lo (d + d') := by
  unfold Tot
  rw [anyTo_split (fun i => R (lo + i)) d d']
  simp only [← Nat.add_assoc]
  refine ccells_congr _ fun j _ => ?_
  rw [sumTo_split (fun i => C (lo + i) j) d d']
  simp only [← Nat.add_assoc]

theorem plus_tot (w : World) (C : Nat → Nat → Int) (R : Nat → Bool) (lo d d' : Nat) :
    Calls Try.prog 18 #[.agg (Tot C R lo d), .agg (Tot C R (lo + d) d')] w fun e w' => e = .returned (.agg (Tot C R lo (d + d'))) ∧ Below w.heap.size w w' := by
  rw [← Tot_add]
  exact plus_any w _ _ _ _

theorem countsOfZ_tot (w : World) (cs : List Value) (C : Nat → Nat → Int) (R : Nat → Bool) (lo : Nat) (hC : ∀ j, j < 14 → -9223372036854775808 ≤ C lo j ∧ C lo j ≤ 9223372036854775807) (a1 a2 a3 : Option Addr) (n1 n2 n3 q1 q2 q3 : Nat) (h : Hid (cs.toArray = fcells (C lo) (R lo) (.slice a1 n1 q1) (.slice a2 n2 q2) (.slice a3 n3 q3))) :
    Calls Try.prog 13 #[.agg cs.toArray] w fun e w' => e = .returned (.agg (Tot C R lo 1)) ∧ Below w.heap.size w w' := by
  rw [Tot_one C R lo hC]
  exact countsOfZ_cs w cs _ _ _ a1 a2 a3 n1 n2 n3 q1 q2 q3 h rfl

/-- a store of a zzCounts into a block of its size -/
theorem stores34 {w : World} {b : Nat} {N : Nat → Int} {r : Bool} (h : w.heap[b]? = some (.cells (ccells N r) 34 (0, 0))) (C : Nat → Nat → Int) (R : Nat → Bool) (lo d : Nat) : StoresAt Try.prog w 34 b 0 (Tot C R lo d).size :=
  ⟨fun j hj => by rw [cell_of_row _ _ _ _ _ _ h, Nat.zero_add, Array.getElem?_eq_getElem (by exact hj)]; rfl, fun j _ => frozen_of_row _ _ _ _ _ h, by kernel_rfl⟩

theorem Try.size34 : (Try.prog.info? 34).map (·.size) = some 15 := by kernel_rfl

set_option maxHeartbeats 1000000 in
set_option maxRecDepth 100000 in
theorem model_any (W : World) (v : Value) (n : Nat) (C : Nat → Nat → Int) (R : Nat → Bool) (h : Figs W v n C R) (hC : ∀ i j, i < n → j < 14 → -9223372036854775808 ≤ C i j ∧ C i j ≤ 9223372036854775807) :
    ∀ (D lo d : Nat) (w : World), d ≤ D → lo + d ≤ n → Below W.heap.size W w →
    Calls Try.prog 9 #[v, .int .i64 (lo : Int), .int .i64 ((lo + d : Nat) : Int)] w fun e w' => e = .returned (.agg (Tot C R lo d)) ∧ Below w.heap.size w w' := by
  obtain ⟨ao, c, rfl, hn, hc⟩ := h
  intro D
  induction D with
  | zero =>
    intro lo d w hd hlo hb
    obtain rfl : d = 0 := by omega
    have HR := heap_alloc_new w (.cells (Tot C R lo 0) 34)
    go_enter Try.func9, Try.ntmps9
    go_wp2_with (first | ((with_reducible refine at_store_new (c' := Tot C R lo 0) ?_ ?_ ?_ ?_ ?_ ?_); rfl; rfl; kernel_rfl; rfl; rfl))
    exact bodyPost_ret (results_cell_row (P := Try.prog) Try.results9 _ _ w.heap.size 34 _ (0, 0) _ rfl HR Try.underlying34 rfl (by kernel_rfl)) rfl ⟨rfl, (Below.refl _ _).alloc (Nat.le_refl _) _⟩
  | succ D ih =>
    intro lo d w hd hlo hb
    rcases (show d = 0 ∨ d = 1 ∨ 2 ≤ d by omega) with h0 | h1 | h2
    · exact ih lo d w (by omega) hlo hb
    · subst h1
      obtain ⟨b, off, rfl, hf⟩ := hc (by omega)
      have hb1 : Below W.heap.size W (w.alloc (.cells (ccells (fun _ => 0) false) 34)) := hb.alloc hb.size _
      have HR := heap_alloc_new w (.cells (ccells (fun _ => 0) false) 34)
      obtain ⟨csz, x1, x2, x3, y1, y2, y3, z1, z2, z3, hcsz, rz⟩ := (hf lo (by omega)).range hb1
      have HL : LoadsAt Try.prog (w.alloc (.cells (ccells (fun _ => 0) false) 34)) 42 ⟨b, off + lo * 18, none⟩ csz := ⟨fun j v hj => by rw [add_off]; exact rz j v hj, by kernel_rfl, size_cs42 hcsz⟩
      have e1 : (1 : Int) = ((lo + 1 : Nat) : Int) - (lo : Int) := by omega
      have hlt : (lo : Int) < (n : Int) := by omega
      have hcast : ((lo + 1 : Nat) : Int) = (lo : Int) + 1 := by omega
      rw [hcast]
      clear ih hf hc rz e1 hcast
      unfold ccells at HL HR
      go_enter Try.func9, Try.ntmps9
      go_wp2_with (first | ((with_reducible refine HL.use ?_ ?_); rfl))
      refine (countsOfZ_tot _ csz C R lo (fun j hj => hC lo j (by omega) hj) _ _ _ _ _ _ _ _ _ hcsz).mono ?_
      rintro e w1 ⟨rfl, hbx⟩
      have HR1 : w1.heap[w.heap.size]? = some (.cells (ccells (fun _ => 0) false) 34 (0, 0)) := block_below HR hbx
      have HS := stores34 HR1 C R lo 1
      have hB : Below w.heap.size w w1 := ((Below.refl _ _).alloc (Nat.le_refl _) _).trans (hbx.mono (by simp))
      clear HL HR hb1 hbx hb hcsz
      go_wp2_with (first | ((with_reducible refine HS.use ?_ ?_ ?_ ?_); rfl; rfl; rfl))
      exact bodyPost_ret (results_cell_row (P := Try.prog) Try.results9 _ _ w.heap.size 34 _ (0, 0) _ rfl (block_setCells_whole _ HR1 rfl) Try.underlying34 rfl (by kernel_rfl)) rfl ⟨rfl, below_setCells _ (Nat.le_refl _) _ _ hB⟩
    · obtain ⟨d1, d2, hd1, hd2, rfl⟩ : ∃ d1 d2, d1 = d / 2 ∧ d2 = d - d / 2 ∧ d = d1 + d2 := ⟨d / 2, d - d / 2, rfl, rfl, by omega⟩
      have hb1 : Below W.heap.size W (w.alloc (.cells (ccells (fun _ => 0) false) 34)) := hb.alloc hb.size _
      have HR := heap_alloc_new w (.cells (ccells (fun _ => 0) false) 34)
      have hsub : ((lo + (d1 + d2) : Nat) : Int) = (lo : Int) + ((d1 : Int) + (d2 : Int)) := by omega
      rw [hsub]
      have IH := (id ih : Hid _)
      have HD1 := (id hd1 : Hid _)
      have HD2 := (id hd2 : Hid _)
      have hmid : (lo : Int) + ((lo : Int) + ((d1 : Int) + (d2 : Int)) - (lo : Int)) / 2 = ((lo + d1 : Nat) : Int) := by omega
      have hge : (2 : Int) ≤ (d1 : Int) + (d2 : Int) := by omega
      have hle : (lo : Int) + ((d1 : Int) + (d2 : Int)) ≤ (n : Int) := by omega
      have HM := (id hmid : Hid _)
      have hend : (lo : Int) + ((d1 : Int) + (d2 : Int)) = ((lo + d1 + d2 : Nat) : Int) := by omega
      have HE := (id hend : Hid _)
      clear hc hsub ih hd1 hd2 hmid hend
      unfold ccells at HR
      go_enter Try.func9, Try.ntmps9
      go_wp2_with fail
      rw [HM.out]
      refine (IH.out lo d1 _ (by have := HD1.out; omega) (by omega) hb1).mono ?_
      rintro e w1 ⟨rfl, hbx1⟩
      have HR1 : w1.heap[w.heap.size]? = some (.cells (ccells (fun _ => 0) false) 34 (0, 0)) := block_below HR hbx1
      have hB1 : Below w.heap.size w w1 := ((Below.refl _ _).alloc (Nat.le_refl _) _).trans (hbx1.mono (by simp))
      have hW1 : Below W.heap.size W w1 := hb1.trans (hbx1.mono hb1.size)
      clear HR hb1 hbx1 hb
      go_wp2_with fail
      rw [HE.out]
      refine (IH.out (lo + d1) d2 _ (by have := HD2.out; omega) (by omega) hW1).mono ?_
      rintro e w2 ⟨rfl, hbx2⟩
      have HR2 : w2.heap[w.heap.size]? = some (.cells (ccells (fun _ => 0) false) 34 (0, 0)) := block_below HR1 hbx2
      have hB2 : Below w.heap.size w w2 := hB1.trans (hbx2.mono hB1.size)
      clear HR1 hB1 hW1 hbx2
      go_wp2_with fail
      refine (plus_tot _ C R lo d1 d2).mono ?_
      rintro e w3 ⟨rfl, hbx3⟩
      have HR3 : w3.heap[w.heap.size]? = some (.cells (ccells (fun _ => 0) false) 34 (0, 0)) := block_below HR2 hbx3
      have hB3 : Below w.heap.size w w3 := hB2.trans (hbx3.mono hB2.size)
      have HS := stores34 HR3 C R lo (d1 + d2)
      clear HR2 hB2 hbx3
      go_wp2_with (first | ((with_reducible refine HS.use ?_ ?_ ?_ ?_); rfl; rfl; rfl))
      exact bodyPost_ret (results_cell_row (P := Try.prog) Try.results9 _ _ w.heap.size 34 _ (0, 0) _ rfl (block_setCells_whole _ HR3 rfl) Try.underlying34 rfl (by kernel_rfl)) rfl ⟨rfl, below_setCells _ (Nat.le_refl _) _ _ hB3⟩
end Go.Proofs.Qxb6630305a
