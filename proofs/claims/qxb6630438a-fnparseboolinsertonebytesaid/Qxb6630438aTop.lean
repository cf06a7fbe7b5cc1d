import Derived.Test.Qxb6630438aTails
namespace Go.Proofs.Qxb6630438a
open Go.RowKit
set_option linter.unusedSimpArgs false

/-- copying what can be read into a new row: what the world is behind it -/
theorem copied {w : World} {a : Addr} {n c : Nat} {xs : List UInt8} (h : Reads w (.slice (some a) n c) xs) (cur : Array Value) :
    0 < (bc xs).length → (some ⟨w.heap.size, 0, none⟩ : Option Addr) = some ⟨w.heap.size, 0, none⟩ ∧ ∃ ad, (some a : Option Addr) = some ad ∧ ∀ j v, (bc xs)[j]? = some v → (w.alloc (.cells cur 5)).cell? (ad.add j) = some v := by
  obtain ⟨ao, c', hv, _, hc⟩ := h
  cases hv
  intro h0
  rw [bc_length] at h0
  obtain ⟨b, off, ha, hlt, hcell⟩ := hc h0
  have hB : Below w.heap.size w (w.alloc (.cells cur 5)) := (Below.refl _ _).alloc (Nat.le_refl _) _
  refine ⟨rfl, a, rfl, fun j v hj => ?_⟩
  have hj' : j < xs.length := by have := (List.getElem?_eq_some_iff.1 hj).1; rwa [bc_length] at this
  rw [bc_get _ _ hj'] at hj
  cases ha
  rw [add_off, hB.cell (p := ⟨b, off + j, none⟩) hlt, hcell j hj']
  exact hj

theorem copied_reads {w w1 : World} {n : Nat} {xs : List UInt8} {cur : List Value} (hn : xs.length = n) (hcl : cur.length = n) (hw : w1.heap[w.heap.size]? = some (.cells (splice cur 0 (bc xs)).toArray 5 (0, 0))) :
    Reads w1 (.slice (some ⟨w.heap.size, 0, none⟩) n n) xs := by
  have e : splice cur 0 (bc xs) = bc xs := by
    unfold splice
    rw [List.take_zero, List.nil_append, List.drop_eq_nil_of_le (by rw [bc_length]; omega), List.append_nil]
  rw [e] at hw
  subst hn
  refine ⟨_, _, rfl, fun h => by (cases h), fun _ => ⟨w.heap.size, 0, rfl, (Array.getElem?_eq_some_iff.1 hw).1, fun i hi => ?_⟩⟩
  rw [cell_of_row _ _ _ _ _ _ hw, Nat.zero_add]
  simp [bc, hi]

theorem Reads.first {w : World} {b off n c : Nat} {xs : List UInt8} {x : UInt8} (h : Reads w (.slice (some ⟨b, off, none⟩) n c) xs) (hx : xs.head? = some x) : w.cell? ⟨b, off, none⟩ = some (.int .u8 x.toNat) := by
  obtain ⟨ao, c', hv, _, hc⟩ := h
  cases hv
  match xs, hx with
  | y :: t, hx =>
    cases hx
    obtain ⟨b', off', ha, _, hcell⟩ := hc (by simp)
    cases ha
    exact hcell 0 (by simp)

set_option maxHeartbeats 4000000 in
theorem fold_cons (w : World) (a : Addr) (n c : Nat) (xs : List UInt8) (x0 : UInt8) (h : Reads w (.slice (some a) n c) xs) (hm : n ≤ maxLen) (h0 : Hid (xs.head? = some x0)) (W T v ok tt g e1 e2 e3 : Bool)
    (hW : Hid (word (xs.map lo) = W)) (hT : (((lo x0).toNat : Int) == 116) = T)
    (hv : Hid (pv xs = v)) (hok : Hid ((v || pf xs) = ok)) (hvl : Hid (pv (xs.map lo) = tt)) (hokl : Hid ((tt || pf (xs.map lo)) = W)) (hvu : Hid (pv (xs.map up) = tt)) (hoku : Hid ((tt || pf (xs.map up)) = W)) (htt : (W && T) = tt)
    (hg : ((x0.toNat : Int) == ((up x0).toNat : Int)) = g) (q1 : ((bs xs).toList == (bs (xs.map lo)).toList) = e1) (q2 : ((bs xs).toList == (bs (xs.map up)).toList) = e2) (q3 : ((bs xs.tail).toList == (bs (xs.map lo).tail).toList) = e3)
    (hV : Hid (((W && (e1 || e2 || (g && e3))) && (W && T)) = v)) (hO : Hid ((W && (e1 || e2 || (g && e3))) = ok)) :
    Calls Try.prog 3 #[.slice (some a) n c] w fun e w' => e = .returned (.bool true) ∧ Below w.heap.size w w' := by
  have hn : Hid (xs.length = n) := by
    obtain ⟨ao, c', hv, _⟩ := h
    cases hv
    exact rfl
  by_cases hlt : 1048576 < n
  · have hlt' : (1048576 : Int) < (n : Int) := by omega
    go_enter Try.func3, Try.ntmps3
    go_wp2_with fail
    refine (bytesC_any _ _ _ _ hm).mono ?_
    rintro e w1 ⟨⟨bb, rfl⟩, rfl⟩
    cases bb
    all_goals
      go_wp2_with fail
      go_ret
      exact ⟨rfl, Below.refl _ _⟩
  have hmk := run_make_row' (P := Try.prog) 22 5 (.int .u8 0) 1 Try.underlying22 Try.info5 rfl .i64 .i64 n (by omega) (by omega)
  obtain ⟨cur, hcur⟩ : ∃ cur : List Value, Hid (cur.toArray = madeCells #[.int .u8 0] n) := ⟨(madeCells #[.int .u8 0] n).toList, by unfold Hid; simp⟩
  have HCL : Hid (cur.length = n) := by unfold Hid; have := congrArg Array.size hcur.out; rw [size_madeCells] at this; simpa using this
  have HG : Hid _ := heap_alloc_new w (.cells cur.toArray 5)
  rw [← hcur.out] at hmk
  have hB : Below w.heap.size w (w.alloc (.cells cur.toArray 5)) := (Below.refl _ _).alloc (Nat.le_refl _) _
  have HLEN : Hid ((bc xs).length = Nat.min n n) := by unfold Hid; rw [bc_length, hn.out]; simp
  have HFIT : Hid (0 + (bc xs).length ≤ cur.length) := by unfold Hid; rw [bc_length, hn.out, HCL.out]; omega
  go_enter Try.func3, Try.ntmps3
  go_wp2_with fail
  refine (bytesC_any _ _ _ _ hm).mono ?_
  rintro e w1 ⟨⟨bb, rfl⟩, rfl⟩
  cases bb
  · go_wp2_with fail
    go_ret
    exact ⟨rfl, Below.refl _ _⟩
  have hlt' : (n : Int) ≤ 1048576 := by omega
  go_wp2_with (first | ((with_reducible refine at_copy (elem := 5) (dp := some ⟨w.heap.size, 0, none⟩) (sp := some a) (dLen := n) (dCap := n) (sLen := n) (sCap := c) Try.underlying22 ?_ ?_ ?_ w.heap.size 0 cur 5 HG.out (bc xs) HLEN.out (copied h cur.toArray) HFIT.out (bc_oneCell xs) w.heap.size w hB (Nat.le_refl _) ?_); kernel_rfl; rfl; rfl; intro w1 hw1 bA))
  have R0 := copied_reads hn.out HCL.out hw1.out
  clear HG hw1 hB HLEN HFIT HCL hcur hmk
  refine (lower_any _ _ _ _ xs R0 (by omega)).mono ?_
  rintro e w2 ⟨rfl, RL, bB⟩
  replace R0 := R0.below bB
  replace bA := bA.trans (bB.mono bA.size)
  clear bB
  go_wp2_with fail
  refine (upper_any _ _ _ _ xs R0 (by omega)).mono ?_
  rintro e w3 ⟨rfl, RU, bB⟩
  replace R0 := R0.below bB
  replace RL := RL.below bB
  replace bA := bA.trans (bB.mono bA.size)
  clear bB
  go_wp2_with fail
  refine (parse_any _ _ _ R0 _ _ hv hok).mono ?_
  rintro e w4 ⟨rfl, rfl⟩
  go_wp2_with fail
  refine (parse_any _ _ _ RL _ _ hvl hokl).mono ?_
  rintro e w4 ⟨rfl, rfl⟩
  go_wp2_with fail
  refine (parse_any _ _ _ RU _ _ hvu hoku).mono ?_
  rintro e w4 ⟨rfl, rfl⟩
  have kL := RL.conv
  go_wp2_with fail
  clear kL
  refine (word_any _ _ _ hW).mono ?_
  rintro e w4 ⟨rfl, rfl⟩
  have hpos : 0 < n := by
    have := h0.out
    rw [← hn.out]
    cases xs with
    | nil => cases this
    | cons x t => simp
  have c0 : w4.cell? ⟨w.heap.size, 0, none⟩ = some (.int .u8 x0.toNat) := R0.first h0.out
  have cL : w4.cell? ⟨w1.heap.size, 0, none⟩ = some (.int .u8 (lo x0).toNat) := RL.first (by rw [List.head?_map, h0.out]; rfl)
  have cU : w4.cell? ⟨w2.heap.size, 0, none⟩ = some (.int .u8 (up x0).toNat) := RU.first (by rw [List.head?_map, h0.out]; rfl)
  have hpos' : (0 : Int) < (n : Int) := by omega
  have k0 : ∀ m, _ := fun m => (R0.drewN m).conv
  have kL : ∀ m, _ := fun m => (RL.drewN m).conv
  have kU : ∀ m, _ := fun m => (RU.drewN m).conv
  have kT : ∀ m, _ := fun m => (RL.tail.drewN m).conv
  have k00 := R0.conv
  have s1 : ∀ W, _ := fun W => str_tail xs (by rw [hn.out]; exact hpos) W
  have s2 : ∀ W, _ := fun W => row_tail w1.heap.size n hpos W
  clear R0 RL RU h
  cases W <;> cases T
  all_goals
    simp only [Bool.false_and, Bool.true_and] at htt
    subst htt
    go_wp2_with fail
    cases g
    · go_quiet (fail)
      cases e1 <;> cases e2
      all_goals
        have hV1 := hV.out
        have hO1 := hO.out
        clear hV hO
        simp only [Bool.false_and, Bool.true_and, Bool.and_true, Bool.and_false, Bool.false_or, Bool.true_or, Bool.or_true, Bool.or_false] at hV1 hO1
        subst hV1 hO1
        go_wp2_with fail
        go_ret
        exact ⟨rfl, below_drewN bA _⟩
    · go_quiet (fail)
      cases e1 <;> cases e2 <;> cases e3
      all_goals
        have hV1 := hV.out
        have hO1 := hO.out
        clear hV hO
        simp only [Bool.false_and, Bool.true_and, Bool.and_true, Bool.and_false, Bool.false_or, Bool.true_or, Bool.or_true, Bool.or_false] at hV1 hO1
        subst hV1 hO1
        go_wp2_with fail
        go_ret
        exact ⟨rfl, below_drewN bA _⟩

end Go.Proofs.Qxb6630438a
