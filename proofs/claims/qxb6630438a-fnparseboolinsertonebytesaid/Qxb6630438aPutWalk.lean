import Derived.Test.Qxb6630438aPut
namespace Go.Proofs.Qxb6630438a
open Go.RowKit
set_option linter.unusedSimpArgs false

set_option maxHeartbeats 4000000 in
theorem put_none (w : World) (n c i : Nat) (ch : UInt8) (hn : Hid (n = 0)) (hi : i ≤ n) (vi oki : Bool) (hvi : Hid (pv [ch] = vi)) (hoki : Hid ((vi || pf [ch]) = oki)) (mvi : Hid (smv [ch] = vi)) (mki : Hid (smk [ch] = oki)) :
    Calls Try.prog 4 #[.slice none n c, .int .i64 i, .int .u8 ch.toNat] w fun e w' => e = .returned (.bool true) ∧ Below w.heap.size w w' := by
  have R0 : Reads w (.slice none n c) [] := ⟨none, c, by rw [hn.out]; rfl, fun _ => rfl, fun h => absurd h (by simp)⟩
  have hm : n ≤ maxLen := by rw [hn.out]; unfold maxLen; omega
  have hi0 : (0 : Int) ≤ (i : Int) := by omega
  have hi1 : (i : Int) ≤ (n : Int) := by omega
  have hlt' : (n : Int) ≤ 1048576 := by have := hn.out; omega
  have hmk2 : ∀ w : World, Sem.run Try.prog (Instr.makeSlice 22 (.int .i64 ((n : Int) + 1)) (.int .i64 ((n : Int) + 1))) w = _ := run_make_row' (P := Try.prog) 22 5 (.int .u8 0) 1 Try.underlying22 Try.info5 rfl .i64 .i64 (n + 1) (by omega) (by omega)
  obtain ⟨cur2, hcur2⟩ : ∃ cur2 : Array Value, Hid (cur2 = madeCells #[.int .u8 0] (n + 1)) := ⟨_, rfl⟩
  have HCL2 : Hid (cur2.size = n + 1) := by unfold Hid; rw [hcur2.out, size_madeCells]
  rw [← hcur2.out] at hmk2
  have HYL : Hid ([ch].length = n + 1) := by unfold Hid; rw [hn.out]; rfl
  go_enter Try.func4, Try.ntmps4
  go_wp2_with fail
  refine (bytesI_any _ _ _ _ _ _ hm).mono ?_
  rintro e w1 ⟨⟨bb, rfl⟩, rfl⟩
  cases bb
  · go_wp2_with fail
    go_ret
    exact ⟨rfl, Below.refl _ _⟩
  go_wp2_with fail
  clear hcur2 hmk2
  go_loopw [9] (fun j wr => ∃ k : Nat, k ≤ i ∧ j = .int .i64 k ∧ ∃ cc : Array Value, Hid (Filled (n + 1) [ch] k cc) ∧ wr = w.alloc (.cells cc 5)) (fun j _ => i - (intOf j).toNat)
  case atStart => exact ⟨0, Nat.zero_le _, rfl, cur2, ⟨HCL2.out, fun j _ h => absurd h (by omega)⟩, rfl⟩
  case round =>
    obtain ⟨k, hk, rfl, cc, hF, rfl⟩ := hrel
    by_cases hki : k < i
    · exfalso; have := hn.out; omega
    · have hki' : k = i := by omega
      subst hki'
      have hcs : cc.size = n + 1 := hF.out.1
      have hk0 : k = 0 := by have := hn.out; omega
      have hs : Filled (n + 1) [ch] (k + 1) (cc.setIfInBounds k (.int .u8 ch.toNat)) := by
        have := hF.out
        subst hk0
        exact this.step (by simp) (by omega)
      have HK := (id hk0 : Hid _)
      have HS := (id hs : Hid _)
      have b3 : (k : Int) < (n : Int) + 1 := by omega
      have b4 : k < n + 1 := by omega
      have b5 : k ≤ n := by omega
      clear hs hk0 hF
      go_wp2
      go_loopw [10] (fun j wr => ∃ q : Nat, k ≤ q ∧ q ≤ n ∧ j = .int .i64 q ∧ ∃ cc : Array Value, Hid (Filled (n + 1) [ch] (q + 1) cc) ∧ wr = w.alloc (.cells cc 5)) (fun j _ => n - (intOf j).toNat)
      case atStart => exact ⟨k, Nat.le_refl _, hi, rfl, _, HS, rfl⟩
      case round =>
        clear HS hcs cc b3 b4 b5
        obtain ⟨q, hq1, hq2, rfl, cc, hF, rfl⟩ := hrel
        by_cases hqn : q < n
        · exfalso; have := hn.out; omega
        · have hqn' : n = q := by omega
          subst hqn'
          have RY := (Filled.owns (w := w) hF.out HYL.out (by omega)).reads
          have hBc : Below w.heap.size w (w.alloc (.cells cc 5)) := (Below.refl _ _).alloc (Nat.le_refl _) _
          replace R0 := R0.below hBc
          clear hF
          go_wp2_with fail
          refine (parse_any _ _ _ R0 false false rfl rfl).mono ?_
          rintro e w4 ⟨rfl, rfl⟩
          go_wp2_with fail
          refine (parse_any _ _ _ RY _ _ hvi hoki).mono ?_
          rintro e w4 ⟨rfl, rfl⟩
          go_wp2_with fail
          refine (spelled_nil _ _ _ _ hn).mono ?_
          rintro e w5 ⟨rfl, rfl⟩
          go_wp2_with fail
          refine (spelled_any _ _ _ _ RY (by omega) _ _ mvi mki).mono ?_
          rintro e w6 ⟨rfl, bB⟩
          replace bA := hBc.trans (bB.mono hBc.size)
          clear bB RY R0
          cases oki <;> cases vi
          all_goals
            go_wp2_with fail
            go_ret
            exact ⟨rfl, bA⟩

set_option maxHeartbeats 1000000 in
/-- a place outside b -/
theorem put_out (w : World) (a : Option Addr) (n c : Nat) (i : Int) (ch : Value) (hm : n ≤ maxLen) (ho : i < 0 ∨ (n : Int) < i) :
    Calls Try.prog 4 #[.slice a n c, .int .i64 i, ch] w fun e w' => e = .returned (.bool true) ∧ Below w.heap.size w w' := by
  by_cases hlt : 1048576 < n
  · have hlt' : (1048576 : Int) < (n : Int) := by omega
    clear ho
    go_enter Try.func4, Try.ntmps4
    go_wp2_with fail
    refine (bytesI_any _ _ _ _ _ _ hm).mono ?_
    rintro e w1 ⟨⟨bb, rfl⟩, rfl⟩
    cases bb
    all_goals
      go_wp2_with fail
      go_ret
      exact ⟨rfl, Below.refl _ _⟩
  have hlt' : (n : Int) ≤ 1048576 := by omega
  by_cases h0 : i < 0
  · clear ho
    go_enter Try.func4, Try.ntmps4
    go_wp2_with fail
    refine (bytesI_any _ _ _ _ _ _ hm).mono ?_
    rintro e w1 ⟨⟨bb, rfl⟩, rfl⟩
    cases bb
    all_goals
      go_wp2_with fail
      go_ret
      exact ⟨rfl, Below.refl _ _⟩
  have h1 : (n : Int) < i := by omega
  have h2 : (0 : Int) ≤ i := by omega
  clear ho h0
  go_enter Try.func4, Try.ntmps4
  go_wp2_with fail
  refine (bytesI_any _ _ _ _ _ _ hm).mono ?_
  rintro e w1 ⟨⟨bb, rfl⟩, rfl⟩
  cases bb
  all_goals
    go_wp2_with fail
    go_ret
    exact ⟨rfl, Below.refl _ _⟩

theorem put_walk (w : World) (a : Option Addr) (n c : Nat) (i : Int) (k : Int) (xs : List UInt8) (h : Reads w (.slice a n c) xs) (hm : n ≤ maxLen) (hk : (Lit.int .u8 k).wf = true) :
    Calls Try.prog 4 #[.slice a n c, .int .i64 i, .int .u8 k] w fun e w' => e = .returned (.bool true) ∧ Below w.heap.size w w' := by
  by_cases ho : i < 0 ∨ (n : Int) < i
  · exact put_out w a n c i _ hm ho
  have hb2 : 0 ≤ k ∧ k ≤ 255 := by
    simpa [Lit.wf, IntKind.min, IntKind.max, IntKind.signed, IntKind.bits] using hk
  obtain ⟨ch, rfl⟩ : ∃ ch : UInt8, k = (ch.toNat : Int) := ⟨UInt8.ofNat k.toNat, by rw [UInt8.toNat_ofNat']; omega⟩
  obtain ⟨j, rfl⟩ : ∃ j : Nat, i = (j : Int) := ⟨i.toNat, by omega⟩
  have hj : j ≤ n := by omega
  have hn := h.len
  have m2 := model_law (ins xs j ch)
  have m1 := model_law xs
  cases a with
  | none =>
    have hx : xs = [] := by
      obtain ⟨ao, c', hv, h2, _⟩ := h
      cases hv
      exact h2 rfl
    subst hx
    have hj0 : j = 0 := by rw [← hn] at hj; simpa using hj
    subst hj0
    exact put_none w n c 0 ch hn.symm hj _ _ rfl rfl m2.1.symm m2.2.symm
  | some a => exact put_some w a n c j ch xs h hm hj (ins xs j ch) rfl _ _ _ _ rfl rfl rfl rfl m1.1.symm m1.2.symm m2.1.symm m2.2.symm (never_both xs j ch (by rw [hn]; exact hj))
end Go.Proofs.Qxb6630438a
