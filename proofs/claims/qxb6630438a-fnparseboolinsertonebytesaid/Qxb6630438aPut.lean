import Derived.Test.Qxb6630438aModel
namespace Go.Proofs.Qxb6630438a
open Go.RowKit
set_option linter.unusedSimpArgs false

theorem Reads.at {w : World} {b n c : Nat} {xs : List UInt8} (h : Reads w (.slice (some ⟨b, 0, none⟩) n c) xs) {k : Nat} (hk : k < xs.length) : w.cell? ⟨b, k, none⟩ = some (.int .u8 xs[k].toNat) := by
  obtain ⟨ao, c', hv, _, hc⟩ := h
  cases hv
  obtain ⟨b', off', ha, _, hcell⟩ := hc (by omega)
  cases ha
  have := hcell k hk
  rwa [Nat.zero_add] at this

set_option maxHeartbeats 4000000 in
theorem put_some (w : World) (a : Addr) (n c i : Nat) (ch : UInt8) (xs : List UInt8) (h : Reads w (.slice (some a) n c) xs) (hm : n ≤ maxLen) (hi : i ≤ n) (ys : List UInt8) (hy : Hid (ys = ins xs i ch))
    (v ok vi oki : Bool) (hv : Hid (pv xs = v)) (hok : Hid ((v || pf xs) = ok)) (hvi : Hid (pv ys = vi)) (hoki : Hid ((vi || pf ys) = oki))
    (mv : Hid (smv xs = v)) (mk : Hid (smk xs = ok)) (mvi : Hid (smv ys = vi)) (mki : Hid (smk ys = oki)) (hboth : (ok && oki) = false) :
    Calls Try.prog 4 #[.slice (some a) n c, .int .i64 i, .int .u8 ch.toNat] w fun e w' => e = .returned (.bool true) ∧ Below w.heap.size w w' := by
  have hn : Hid (xs.length = n) := h.len
  have hi0 : (0 : Int) ≤ (i : Int) := by omega
  have hi1 : (i : Int) ≤ (n : Int) := by omega
  by_cases hlt : 1048576 < n
  · have hlt' : (1048576 : Int) < (n : Int) := by omega
    go_enter Try.func4, Try.ntmps4
    go_wp2_with fail
    refine (bytesI_any _ _ _ _ _ _ hm).mono ?_
    rintro e w1 ⟨⟨bb, rfl⟩, rfl⟩
    cases bb
    all_goals
      go_wp2_with fail
      go_ret
      exact ⟨rfl, Below.refl _ _⟩
  have hmk := run_make_row' (P := Try.prog) 22 5 (.int .u8 0) 1 Try.underlying22 Try.info5 rfl .i64 .i64 n (by omega) (by omega)
  have hmk2 : ∀ w : World, Sem.run Try.prog (Instr.makeSlice 22 (.int .i64 ((n : Int) + 1)) (.int .i64 ((n : Int) + 1))) w = _ := run_make_row' (P := Try.prog) 22 5 (.int .u8 0) 1 Try.underlying22 Try.info5 rfl .i64 .i64 (n + 1) (by omega) (by omega)
  obtain ⟨cur, hcur⟩ : ∃ cur : List Value, Hid (cur.toArray = madeCells #[.int .u8 0] n) := ⟨(madeCells #[.int .u8 0] n).toList, by unfold Hid; simp⟩
  have HCL : Hid (cur.length = n) := by unfold Hid; have := congrArg Array.size hcur.out; rw [size_madeCells] at this; simpa using this
  obtain ⟨cur2, hcur2⟩ : ∃ cur2 : Array Value, Hid (cur2 = madeCells #[.int .u8 0] (n + 1)) := ⟨_, rfl⟩
  have HCL2 : Hid (cur2.size = n + 1) := by unfold Hid; rw [hcur2.out, size_madeCells]
  have HG : Hid _ := heap_alloc_new w (.cells cur.toArray 5)
  rw [← hcur.out] at hmk
  rw [← hcur2.out] at hmk2
  have hB : Below w.heap.size w (w.alloc (.cells cur.toArray 5)) := (Below.refl _ _).alloc (Nat.le_refl _) _
  have HLEN : Hid ((bc xs).length = Nat.min n n) := by unfold Hid; rw [bc_length, hn.out]; simp
  have HFIT : Hid (0 + (bc xs).length ≤ cur.length) := by unfold Hid; rw [bc_length, hn.out, HCL.out]; omega
  have HYL : Hid (ys.length = n + 1) := by unfold Hid; rw [hy.out, ins_length _ _ _ (by rw [hn.out]; exact hi), hn.out]
  go_enter Try.func4, Try.ntmps4
  go_wp2_with fail
  refine (bytesI_any _ _ _ _ _ _ hm).mono ?_
  rintro e w1 ⟨⟨bb, rfl⟩, rfl⟩
  cases bb
  · go_wp2_with fail
    go_ret
    exact ⟨rfl, Below.refl _ _⟩
  have hlt' : (n : Int) ≤ 1048576 := by omega
  go_wp2_with (first | ((with_reducible refine at_copy (elem := 5) (dp := some ⟨w.heap.size, 0, none⟩) (sp := some a) (dLen := n) (dCap := n) (sLen := n) (sCap := c) Try.underlying22 ?_ ?_ ?_ w.heap.size 0 cur 5 HG.out (bc xs) HLEN.out (copied h cur.toArray) HFIT.out (bc_oneCell xs) w.heap.size w hB (Nat.le_refl _) ?_); kernel_rfl; rfl; rfl; intro w1 hw1 bA))
  have R0 := copied_reads hn.out HCL.out hw1.out
  have hgl : w.heap.size < w1.heap.size := (Array.getElem?_eq_some_iff.1 hw1.out).1
  have CELL : Hid (∀ k (hk : k < xs.length) (cc : Array Value), (w1.alloc (.cells cc 5)).cell? ⟨w.heap.size, k, none⟩ = some (.int .u8 xs[k].toNat)) := by
    intro k hk cc
    have hBc : Below w1.heap.size w1 (w1.alloc (.cells cc 5)) := (Below.refl _ _).alloc (Nat.le_refl _) _
    rw [hBc.cell (p := ⟨w.heap.size, k, none⟩) hgl]
    exact R0.at hk
  clear HG hw1 hB HLEN HFIT HCL hcur hcur2 hmk hmk2 h
  go_loopw [9] (fun j wr => ∃ k : Nat, k ≤ i ∧ j = .int .i64 k ∧ ∃ cc : Array Value, Hid (Filled (n + 1) ys k cc) ∧ wr = w1.alloc (.cells cc 5)) (fun j _ => i - (intOf j).toNat)
  case atStart => exact ⟨0, Nat.zero_le _, rfl, cur2, ⟨HCL2.out, fun j _ h => absurd h (by omega)⟩, rfl⟩
  case round =>
    obtain ⟨k, hk, rfl, cc, hF, rfl⟩ := hrel
    by_cases hki : k < i
    · have hkx : k < xs.length := by rw [hn.out]; omega
      have c1 := CELL.out k hkx cc
      have hs := hF.out.step (by rw [HYL.out]; omega) (by omega)
      have e : ys[k]'(by rw [HYL.out]; omega) = xs[k] := by
        have hy' := hy.out
        subst hy'
        exact ins_lt xs i ch (by rw [hn.out]; exact hi) k hki
      rw [e] at hs
      have HS := (id hs : Hid _)
      have hcs : cc.size = n + 1 := hF.out.1
      have b1 : (k : Int) < (i : Int) := by omega
      have b2 : (k : Int) < (n : Int) := by omega
      have b3 : (k : Int) < (n : Int) + 1 := by omega
      have b4 : k < n + 1 := by omega
      have b5 : k ≤ n := by omega
      clear hs e
      generalize (xs[k]).toNat = x at *
      go_wp2
      go_roundw
      case rel => exact ⟨k + 1, by omega, by go_num, _, HS, rfl⟩
      case measure => simp [intOf]; omega
    · have hki' : k = i := by omega
      subst hki'
      have hcs : cc.size = n + 1 := hF.out.1
      have hs := hF.out.step (by rw [HYL.out]; omega) (by omega)
      have e : ys[k]'(by rw [HYL.out]; omega) = ch := by
        have hy' := hy.out
        subst hy'
        exact ins_at xs k ch (by rw [hn.out]; exact hi)
      rw [e] at hs
      have HS := (id hs : Hid _)
      have b3 : (k : Int) < (n : Int) + 1 := by omega
      have b4 : k < n + 1 := by omega
      have b5 : k ≤ n := by omega
      clear hs e hF
      go_wp2
      go_loopw [10] (fun j wr => ∃ q : Nat, k ≤ q ∧ q ≤ n ∧ j = .int .i64 q ∧ ∃ cc : Array Value, Hid (Filled (n + 1) ys (q + 1) cc) ∧ wr = w1.alloc (.cells cc 5)) (fun j _ => n - (intOf j).toNat)
      case atStart => exact ⟨k, Nat.le_refl _, hi, rfl, _, HS, rfl⟩
      case round =>
        clear HS hcs cc b3 b4 b5
        obtain ⟨q, hq1, hq2, rfl, cc, hF, rfl⟩ := hrel
        by_cases hqn : q < n
        · have hqx : q < xs.length := by rw [hn.out]; omega
          have c1 := CELL.out q hqx cc
          have hs := hF.out.step (by rw [HYL.out]; omega) (by omega)
          have e : ys[q + 1]'(by rw [HYL.out]; omega) = xs[q] := by
            have hy' := hy.out
            subst hy'
            exact ins_gt xs k ch (by rw [hn.out]; exact hi) q hq1 hqx
          rw [e] at hs
          have HS := (id hs : Hid _)
          have hcs : cc.size = n + 1 := hF.out.1
          have b2 : (q : Int) < (n : Int) := by omega
          have b3 : (q : Int) + 1 < (n : Int) + 1 := by omega
          have b4 : q + 1 < n + 1 := by omega
          clear hs e
          generalize (xs[q]).toNat = x at *
          go_wp2
          go_roundw
          case rel => exact ⟨q + 1, by omega, by omega, by go_num, _, HS, rfl⟩
          case measure => simp [intOf]; omega
        · have hqn' : n = q := by omega
          subst hqn'
          have RY := (Filled.owns (w := w1) hF.out HYL.out (by omega)).reads
          have hBc : Below w1.heap.size w1 (w1.alloc (.cells cc 5)) := (Below.refl _ _).alloc (Nat.le_refl _) _
          replace R0 := R0.below hBc
          replace bA := bA.trans (hBc.mono bA.size)
          clear hBc CELL hF
          go_wp2_with fail
          refine (parse_any _ _ _ R0 _ _ hv hok).mono ?_
          rintro e w4 ⟨rfl, rfl⟩
          go_wp2_with fail
          refine (parse_any _ _ _ RY _ _ hvi hoki).mono ?_
          rintro e w4 ⟨rfl, rfl⟩
          go_wp2_with fail
          refine (spelled_any _ _ _ _ R0 (by omega) _ _ mv mk).mono ?_
          rintro e w5 ⟨rfl, bB⟩
          replace RY := RY.below bB
          replace bA := bA.trans (bB.mono bA.size)
          clear bB
          go_wp2_with fail
          refine (spelled_any _ _ _ _ RY (by omega) _ _ mvi mki).mono ?_
          rintro e w6 ⟨rfl, bB⟩
          replace bA := bA.trans (bB.mono bA.size)
          clear bB RY R0
          cases ok <;> cases oki <;> cases v <;> cases vi
          all_goals first | (cases hboth; done) | skip
          all_goals
            go_wp2_with fail
            go_ret
            exact ⟨rfl, bA⟩
end Go.Proofs.Qxb6630438a
