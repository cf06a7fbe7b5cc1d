import Derived.Test.Qxb6630438aTop
namespace Go.Proofs.Qxb6630438a
open Go.RowKit

set_option maxHeartbeats 1000000 in
theorem fold_none (w : World) (c : Nat) : Calls Try.prog 3 #[.slice none 0 c] w fun e w' => e = .returned (.bool true) ∧ Below w.heap.size w w' := by
  have R0 : Reads w (.slice none 0 c) [] := ⟨none, c, rfl, fun _ => rfl, fun h => absurd h (by simp)⟩
  have bA : Below w.heap.size w w := Below.refl _ _
  go_enter Try.func3, Try.ntmps3
  go_wp2_with fail
  refine (bytesC_any _ _ _ _ (by unfold maxLen; omega)).mono ?_
  rintro e w1 ⟨⟨bb, rfl⟩, rfl⟩
  cases bb
  · go_wp2_with fail
    go_ret
    exact ⟨rfl, Below.refl _ _⟩
  go_wp2_with fail
  refine (lower_any _ _ _ _ [] R0 (by omega)).mono ?_
  rintro e w2 ⟨rfl, RL, bB⟩
  replace R0 := R0.below bB
  replace bA := bA.trans (bB.mono bA.size)
  clear bB
  go_wp2_with fail
  refine (upper_any _ _ _ _ [] R0 (by omega)).mono ?_
  rintro e w3 ⟨rfl, RU, bB⟩
  replace R0 := R0.below bB
  replace RL := RL.below bB
  replace bA := bA.trans (bB.mono bA.size)
  clear bB
  go_wp2_with fail
  refine (parse_any _ _ _ R0 false false rfl rfl).mono ?_
  rintro e w4 ⟨rfl, rfl⟩
  go_wp2_with fail
  refine (parse_any _ _ _ RL false false rfl rfl).mono ?_
  rintro e w4 ⟨rfl, rfl⟩
  go_wp2_with fail
  refine (parse_any _ _ _ RU false false rfl rfl).mono ?_
  rintro e w4 ⟨rfl, rfl⟩
  have kL := RL.conv
  go_wp2_with fail
  clear kL
  refine (word_any _ [] false rfl).mono ?_
  rintro e w4 ⟨rfl, rfl⟩
  go_wp2_with fail
  go_ret
  exact ⟨rfl, bA⟩

set_option maxHeartbeats 1000000 in
theorem fold_zero (w : World) (a : Addr) (n c : Nat) (hn : Hid (n = 0)) : Calls Try.prog 3 #[.slice (some a) n c] w fun e w' => e = .returned (.bool true) ∧ Below w.heap.size w w' := by
  have hl0 : (n : Int) ≤ 0 := by have := hn.out; omega
  have hl1 : (n : Int) ≤ 1048576 := by omega
  have hmk := run_make_row' (P := Try.prog) 22 5 (.int .u8 0) 1 Try.underlying22 Try.info5 rfl .i64 .i64 n (by omega) (by omega)
  obtain ⟨cur, hcur⟩ : ∃ cur : List Value, Hid (cur.toArray = madeCells #[.int .u8 0] n) := ⟨(madeCells #[.int .u8 0] n).toList, by unfold Hid; simp⟩
  have HCL : Hid (cur.length = n) := by unfold Hid; have := congrArg Array.size hcur.out; rw [size_madeCells] at this; simpa using this
  have HG : Hid _ := heap_alloc_new w (.cells cur.toArray 5)
  have HLEN : Hid ((bc []).length = Nat.min n n) := by unfold Hid; rw [hn.out]; rfl
  have HFIT : Hid (0 + (bc []).length ≤ cur.length) := Nat.zero_le _
  have h : Reads w (.slice (some a) n c) [] := ⟨_, c, by rw [hn.out]; rfl, fun _ => rfl, fun h => absurd h (by simp)⟩
  rw [← hcur.out] at hmk
  have hB : Below w.heap.size w (w.alloc (.cells cur.toArray 5)) := (Below.refl _ _).alloc (Nat.le_refl _) _
  go_enter Try.func3, Try.ntmps3
  go_wp2_with fail
  refine (bytesC_any _ _ _ _ (by unfold maxLen; omega)).mono ?_
  rintro e w1 ⟨⟨bb, rfl⟩, rfl⟩
  cases bb
  · go_wp2_with fail
    go_ret
    exact ⟨rfl, Below.refl _ _⟩
  go_wp2_with (first | ((with_reducible refine at_copy (elem := 5) (dp := some ⟨w.heap.size, 0, none⟩) (sp := some a) (dLen := n) (dCap := n) (sLen := n) (sCap := c) Try.underlying22 ?_ ?_ ?_ w.heap.size 0 cur 5 HG.out (bc []) HLEN.out (copied h cur.toArray) HFIT.out (bc_oneCell [])  w.heap.size w hB (Nat.le_refl _) ?_); kernel_rfl; rfl; rfl; intro w1 hw1 bA))
  have R0 : Reads w1 (.slice (some ⟨w.heap.size, 0, none⟩) n n) [] := ⟨_, n, by rw [hn.out]; rfl, fun _ => rfl, fun h => absurd h (by simp)⟩
  clear HG HLEN HFIT hw1 hB HCL hcur hmk
  refine (lower_any _ _ _ _ [] R0 (by omega)).mono ?_
  rintro e w2 ⟨rfl, RL, bB⟩
  replace R0 := R0.below bB
  replace bA := bA.trans (bB.mono bA.size)
  clear bB
  go_wp2_with fail
  refine (upper_any _ _ _ _ [] R0 (by omega)).mono ?_
  rintro e w3 ⟨rfl, RU, bB⟩
  replace R0 := R0.below bB
  replace RL := RL.below bB
  replace bA := bA.trans (bB.mono bA.size)
  clear bB
  go_wp2_with fail
  refine (parse_any _ _ _ R0 false false rfl rfl).mono ?_
  rintro e w4 ⟨rfl, rfl⟩
  go_wp2_with fail
  refine (parse_any _ _ _ RL false false rfl rfl).mono ?_
  rintro e w4 ⟨rfl, rfl⟩
  go_wp2_with fail
  refine (parse_any _ _ _ RU false false rfl rfl).mono ?_
  rintro e w4 ⟨rfl, rfl⟩
  have kL := RL.conv
  go_wp2_with fail
  clear kL
  refine (word_any _ [] false rfl).mono ?_
  rintro e w4 ⟨rfl, rfl⟩
  go_wp2_with fail
  go_ret
  exact ⟨rfl, bA⟩

theorem fold_walk (w : World) (a : Option Addr) (n c : Nat) (xs : List UInt8) (h : Reads w (.slice a n c) xs) (hm : n ≤ maxLen) :
    Calls Try.prog 3 #[.slice a n c] w fun e w' => e = .returned (.bool true) ∧ Below w.heap.size w w' := by
  have hn : xs.length = n := by
    obtain ⟨ao, c', hv, _⟩ := h
    cases hv
    rfl
  cases xs with
  | nil =>
    subst hn
    cases a with
    | none => exact fold_none w c
    | some a => exact fold_zero w a _ c rfl
  | cons x0 xt =>
    cases a with
    | none =>
      obtain ⟨ao, c', hv, h2, _⟩ := h
      cases hv
      cases h2 rfl
    | some a =>
      have F := foldB_true (x0 :: xt)
      unfold foldB at F
      simp only [Bool.and_eq_true, beq_iff_eq] at F
      obtain ⟨⟨⟨⟨⟨f1, f2⟩, f3⟩, f4⟩, f5⟩, f6⟩ := F
      have T1 : truthy (x0 :: xt) = (word ((x0 :: xt).map lo) && (((lo x0).toNat : Int) == 116)) := by
        unfold truthy
        congr 1
        rw [List.map_cons, List.head?_cons, Bool.eq_iff_iff, beq_iff_eq, beq_iff_eq, Option.some.injEq]
        constructor
        · intro e; rw [e]; rfl
        · intro e; apply UInt8.toNat_inj.1; show (lo x0).toNat = 116; omega
      have G1 : capital (x0 :: xt) = (((x0.toNat : Int) == ((up x0).toNat : Int)) && ((bs (x0 :: xt).tail).toList == (bs ((x0 :: xt).map lo).tail).toList)) := by
        unfold capital
        rw [bs_toList, bs_toList]
        congr 1
        rw [List.map_cons, List.head?_cons, List.head?_cons, Bool.eq_iff_iff, beq_iff_eq, beq_iff_eq, Option.some.injEq]
        constructor
        · intro e; rw [← e]
        · intro e; apply UInt8.toNat_inj.1; omega
      have C1 : casing (x0 :: xt) = ((bs (x0 :: xt)).toList == (bs ((x0 :: xt).map lo)).toList || (bs (x0 :: xt)).toList == (bs ((x0 :: xt).map up)).toList || (((x0.toNat : Int) == ((up x0).toNat : Int)) && ((bs (x0 :: xt).tail).toList == (bs ((x0 :: xt).map lo).tail).toList))) := by
        unfold casing
        rw [G1, bs_toList (x0 :: xt), bs_toList (List.map lo (x0 :: xt)), bs_toList (List.map up (x0 :: xt))]
      refine fold_cons w a n c (x0 :: xt) x0 h hm rfl _ _ _ _ _ _ _ _ _ rfl rfl rfl rfl f5 ?_ f6 ?_ T1.symm rfl rfl rfl rfl ?_ ?_
      · unfold Hid; rw [← f5]; exact f3
      · unfold Hid; rw [← f6]; exact f4
      · unfold Hid; rw [f2, C1, T1]
      · unfold Hid; rw [f1, C1]
end Go.Proofs.Qxb6630438a
