import Derived.Test.Qxb6630438aBase
namespace Go.Proofs.Qxb6630438a
open Go.RowKit

/-- one byte made lower case, made upper case -/
def lo (c : UInt8) : UInt8 := if 65 ≤ c.toNat ∧ c.toNat ≤ 90 then UInt8.ofNat (c.toNat + 32) else c
def up (c : UInt8) : UInt8 := if 97 ≤ c.toNat ∧ c.toNat ≤ 122 then UInt8.ofNat (c.toNat - 32) else c

theorem lo_yes (c : UInt8) (h1 : 65 ≤ c.toNat) (h2 : c.toNat ≤ 90) : ((lo c).toNat : Int) = (c.toNat : Int) + 32 := by
  unfold lo
  rw [if_pos ⟨h1, h2⟩, UInt8.toNat_ofNat']
  omega
theorem lo_no (c : UInt8) (h : ¬ (65 ≤ c.toNat ∧ c.toNat ≤ 90)) : ((lo c).toNat : Int) = (c.toNat : Int) := by
  unfold lo
  rw [if_neg h]
theorem up_yes (c : UInt8) (h1 : 97 ≤ c.toNat) (h2 : c.toNat ≤ 122) : ((up c).toNat : Int) = (c.toNat : Int) - 32 := by
  unfold up
  rw [if_pos ⟨h1, h2⟩, UInt8.toNat_ofNat']
  omega
theorem up_no (c : UInt8) (h : ¬ (97 ≤ c.toNat ∧ c.toNat ≤ 122)) : ((up c).toNat : Int) = (c.toNat : Int) := by
  unfold up
  rw [if_neg h]

/-- an array of n cells whose first k are the bytes ys' -/
def Filled (n : Nat) (ys : List UInt8) (k : Nat) (c : Array Value) : Prop := c.size = n ∧ ∀ j (h : j < ys.length), j < k → c[j]? = some (.int .u8 ys[j].toNat)

theorem Filled.step {n k : Nat} {ys : List UInt8} {c : Array Value} (h : Filled n ys k c) (hk : k < ys.length) (hn : k < n) : Filled n ys (k + 1) (c.setIfInBounds k (.int .u8 (ys[k]).toNat)) := by
  obtain ⟨h1, h2⟩ := h
  refine ⟨by rw [Array.size_setIfInBounds]; exact h1, fun j hj hjk => ?_⟩
  rw [Array.getElem?_setIfInBounds]
  by_cases e : k = j
  · subst e; simp [h1, hn]
  · rw [if_neg e]; exact h2 j hj (by omega)

theorem Filled.done {n : Nat} {ys : List UInt8} {c : Array Value} (h : Filled n ys n c) (hn : ys.length = n) : c = (bc ys).toArray := by
  obtain ⟨h1, h2⟩ := h
  apply Array.ext_getElem?
  intro j
  by_cases hj : j < ys.length
  · rw [h2 j hj (by omega), List.getElem?_toArray, bc_get _ _ hj]
  · rw [Array.getElem?_eq_none (by omega), List.getElem?_toArray, List.getElem?_eq_none (by rw [bc_length]; omega)]

theorem Filled.owns {w : World} {n : Nat} {ys : List UInt8} {c : Array Value} (h : Filled n ys n c) (hn : ys.length = n) (hm : n ≤ 1000000000000) : Owns (w.alloc (.cells c 5)) w.heap.size (.slice (some ⟨w.heap.size, 0, none⟩) n n) ys := by
  have e := h.done hn
  subst e
  refine ⟨by rw [bc_length, Nat.mul_one], Or.inr ⟨w.heap.size, n, _, by rw [hn], Nat.le_refl _, heap_alloc_new w _, by omega, by unfold maxLen; omega, by simp [bc_length, hn], ?_⟩⟩
  rw [List.toList_toArray, List.take_of_length_le (by rw [bc_length]; omega)]

set_option maxHeartbeats 1000000 in
theorem lower_any (w : World) (ao : Option Addr) (n0 c : Nat) (xs : List UInt8) (h : Reads w (.slice ao n0 c) xs) (hl : n0 ≤ 1000000000000) :
    Calls Try.prog 6 #[.slice ao n0 c] w fun e w' => e = .returned (.slice (some ⟨w.heap.size, 0, none⟩) n0 n0) ∧ Reads w' (.slice (some ⟨w.heap.size, 0, none⟩) n0 n0) (xs.map lo) ∧ Below w.heap.size w w' := by
  obtain ⟨ao', c', hv, hnil, hc⟩ := h
  cases hv
  have hmk := run_make_row' (P := Try.prog) 22 5 (.int .u8 0) 1 Try.underlying22 Try.info5 rfl .i64 .i64 xs.length (by omega) (by omega)
  obtain ⟨n, hn⟩ : ∃ n, Hid (xs.length = n) := ⟨_, rfl⟩
  obtain ⟨cur, hcur⟩ : ∃ cur : Array Value, Hid (cur = madeCells #[.int .u8 0] n) := ⟨_, rfl⟩
  have hcl : cur.size = n := by rw [hcur.out, size_madeCells]
  rw [hn.out] at hmk hl ⊢
  rw [← hcur.out] at hmk
  have HC := (id hc : Hid _)
  have HCL := (id hcl : Hid _)
  clear hc hnil hcl
  go_enter Try.func6, Try.ntmps6
  go_wp2
  go_loopw [4] (fun i wr => ∃ k : Nat, k ≤ n ∧ i = .int .i64 k ∧ ∃ cc : Array Value, Hid (Filled n (xs.map lo) k cc) ∧ wr = w.alloc (.cells cc 5)) (fun i _ => n - (intOf i).toNat)
  case atStart => exact ⟨0, Nat.zero_le _, rfl, cur, ⟨HCL.out, fun j _ h => absurd h (by omega)⟩, rfl⟩
  case round =>
    obtain ⟨k, hk, rfl, cc, hF, rfl⟩ := hrel
    by_cases hlt : k < n
    · have hlt' : k < xs.length := by rw [hn.out]; exact hlt
      obtain ⟨b1, o1, ha1, hb1, h1⟩ := HC.out (by omega)
      subst ha1
      have hB : Below w.heap.size w (w.alloc (.cells cc 5)) := (Below.refl _ _).alloc (Nat.le_refl _) _
      have c1 : (w.alloc (.cells cc 5)).cell? ⟨b1, o1 + k, none⟩ = some (.int .u8 xs[k].toNat) := by rw [hB.cell (p := ⟨b1, o1 + k, none⟩) hb1]; exact h1 k hlt'
      have hlti : (k : Int) < (n : Int) := by omega
      have hx256 : (xs[k]).toNat < 256 := (xs[k]).toNat_lt
      have hcs : cc.size = n := hF.out.1
      by_cases hx : 65 ≤ (xs[k]).toNat ∧ (xs[k]).toNat ≤ 90
      · have e := lo_yes _ hx.1 hx.2
        have hs := hF.out.step (by rw [List.length_map]; exact hlt') hlt
        rw [List.getElem_map, e] at hs
        have HS := (id hs : Hid _)
        obtain ⟨q1, q2⟩ := hx
        have q3 : (65 : Int) ≤ ((xs[k]).toNat : Int) := by omega
        have q4 : ((xs[k]).toNat : Int) ≤ 90 := by omega
        clear h1 e hs
        generalize (xs[k]).toNat = x at *
        go_wp2
        go_roundw
        case rel => exact ⟨k + 1, by omega, by go_num, _, HS, rfl⟩
        case measure => simp [intOf]; omega
      · have e := lo_no _ hx
        have hs := hF.out.step (by rw [List.length_map]; exact hlt') hlt
        rw [List.getElem_map, e] at hs
        have HS := (id hs : Hid _)
        have q3 : (decide ((65 : Int) ≤ ((xs[k]).toNat : Int)) && decide (((xs[k]).toNat : Int) ≤ 90)) = false := by
          rw [Bool.and_eq_false_iff, decide_eq_false_iff_not, decide_eq_false_iff_not]; omega
        clear h1 e hs hx
        generalize (xs[k]).toNat = x at *
        cases q1 : decide ((65 : Int) ≤ (x : Int))
        all_goals
          rw [q1] at q3
          simp only [Bool.true_and, Bool.false_and] at q3
          go_wp2
          go_roundw
          case rel => exact ⟨k + 1, by omega, by go_num, _, HS, rfl⟩
          case measure => simp [intOf]; omega
    · have hkn : k = n := by omega
      subst hkn
      go_wp2
      go_ret
      exact ⟨rfl, (Filled.owns hF.out (by rw [List.length_map]; exact hn.out) hl).reads, (Below.refl _ _).alloc (Nat.le_refl _) _⟩
set_option maxHeartbeats 1000000 in
theorem upper_any (w : World) (ao : Option Addr) (n0 c : Nat) (xs : List UInt8) (h : Reads w (.slice ao n0 c) xs) (hl : n0 ≤ 1000000000000) :
    Calls Try.prog 7 #[.slice ao n0 c] w fun e w' => e = .returned (.slice (some ⟨w.heap.size, 0, none⟩) n0 n0) ∧ Reads w' (.slice (some ⟨w.heap.size, 0, none⟩) n0 n0) (xs.map up) ∧ Below w.heap.size w w' := by
  obtain ⟨ao', c', hv, hnil, hc⟩ := h
  cases hv
  have hmk := run_make_row' (P := Try.prog) 22 5 (.int .u8 0) 1 Try.underlying22 Try.info5 rfl .i64 .i64 xs.length (by omega) (by omega)
  obtain ⟨n, hn⟩ : ∃ n, Hid (xs.length = n) := ⟨_, rfl⟩
  obtain ⟨cur, hcur⟩ : ∃ cur : Array Value, Hid (cur = madeCells #[.int .u8 0] n) := ⟨_, rfl⟩
  have hcl : cur.size = n := by rw [hcur.out, size_madeCells]
  rw [hn.out] at hmk hl ⊢
  rw [← hcur.out] at hmk
  have HC := (id hc : Hid _)
  have HCL := (id hcl : Hid _)
  clear hc hnil hcl
  go_enter Try.func7, Try.ntmps7
  go_wp2
  go_loopw [4] (fun i wr => ∃ k : Nat, k ≤ n ∧ i = .int .i64 k ∧ ∃ cc : Array Value, Hid (Filled n (xs.map up) k cc) ∧ wr = w.alloc (.cells cc 5)) (fun i _ => n - (intOf i).toNat)
  case atStart => exact ⟨0, Nat.zero_le _, rfl, cur, ⟨HCL.out, fun j _ h => absurd h (by omega)⟩, rfl⟩
  case round =>
    obtain ⟨k, hk, rfl, cc, hF, rfl⟩ := hrel
    by_cases hlt : k < n
    · have hlt' : k < xs.length := by rw [hn.out]; exact hlt
      obtain ⟨b1, o1, ha1, hb1, h1⟩ := HC.out (by omega)
      subst ha1
      have hB : Below w.heap.size w (w.alloc (.cells cc 5)) := (Below.refl _ _).alloc (Nat.le_refl _) _
      have c1 : (w.alloc (.cells cc 5)).cell? ⟨b1, o1 + k, none⟩ = some (.int .u8 xs[k].toNat) := by rw [hB.cell (p := ⟨b1, o1 + k, none⟩) hb1]; exact h1 k hlt'
      have hlti : (k : Int) < (n : Int) := by omega
      have hx256 : (xs[k]).toNat < 256 := (xs[k]).toNat_lt
      have hcs : cc.size = n := hF.out.1
      by_cases hx : 97 ≤ (xs[k]).toNat ∧ (xs[k]).toNat ≤ 122
      · have e := up_yes _ hx.1 hx.2
        have hs := hF.out.step (by rw [List.length_map]; exact hlt') hlt
        rw [List.getElem_map, e] at hs
        have HS := (id hs : Hid _)
        obtain ⟨q1, q2⟩ := hx
        have q3 : (97 : Int) ≤ ((xs[k]).toNat : Int) := by omega
        have q4 : ((xs[k]).toNat : Int) ≤ 122 := by omega
        clear h1 e hs
        generalize (xs[k]).toNat = x at *
        go_wp2
        go_roundw
        case rel => exact ⟨k + 1, by omega, by go_num, _, HS, rfl⟩
        case measure => simp [intOf]; omega
      · have e := up_no _ hx
        have hs := hF.out.step (by rw [List.length_map]; exact hlt') hlt
        rw [List.getElem_map, e] at hs
        have HS := (id hs : Hid _)
        have q3 : (decide ((97 : Int) ≤ ((xs[k]).toNat : Int)) && decide (((xs[k]).toNat : Int) ≤ 122)) = false := by
          rw [Bool.and_eq_false_iff, decide_eq_false_iff_not, decide_eq_false_iff_not]; omega
        clear h1 e hs hx
        generalize (xs[k]).toNat = x at *
        cases q1 : decide ((97 : Int) ≤ (x : Int))
        all_goals
          rw [q1] at q3
          simp only [Bool.true_and, Bool.false_and] at q3
          go_wp2
          go_roundw
          case rel => exact ⟨k + 1, by omega, by go_num, _, HS, rfl⟩
          case measure => simp [intOf]; omega
    · have hkn : k = n := by omega
      subst hkn
      go_wp2
      go_ret
      exact ⟨rfl, (Filled.owns hF.out (by rw [List.length_map]; exact hn.out) hl).reads, (Below.refl _ _).alloc (Nat.le_refl _) _⟩
end Go.Proofs.Qxb6630438a
