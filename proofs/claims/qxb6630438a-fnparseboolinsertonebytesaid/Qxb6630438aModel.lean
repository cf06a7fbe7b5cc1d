import Derived.Test.Qxb6630438aTop
import Derived.Test.Qxb6630438aLawTwo
namespace Go.Proofs.Qxb6630438a
open Go.RowKit
set_option linter.unusedSimpArgs false

theorem Reads.len {w : World} {a : Option Addr} {n c : Nat} {xs : List UInt8} (h : Reads w (.slice a n c) xs) : xs.length = n := by
  obtain ⟨ao, c', hv, _⟩ := h
  cases hv
  rfl

set_option maxHeartbeats 1000000 in
theorem allIn_any (w : World) (a : Option Addr) (n c : Nat) (xs : List UInt8) (h : Reads w (.slice a n c) xs) (l u : Nat) (r : Bool) (hr : Hid (allIn xs l u = r)) (hl : n ≤ 1000000000000) :
    Calls Try.prog 12 #[.slice a n c, .int .u8 l, .int .u8 u] w fun e w' => e = .returned (.bool r) ∧ w' = w := by
  have HN : Hid (xs.length = n) := h.len
  go_enter Try.func12, Try.ntmps12
  go_wp2
  go_loopw [7] (fun i wr => ∃ k : Nat, k ≤ n ∧ i = .int .i64 k ∧ Hid (allIn (xs.drop k) l u = r) ∧ wr = w) (fun i _ => n - (intOf i).toNat)
  case atStart => exact ⟨0, Nat.zero_le _, rfl, hr, rfl⟩
  case round =>
    obtain ⟨k, hk, rfl, hd, rfl⟩ := hrel
    by_cases hlt : k < n
    · have hlt' : k < xs.length := by rw [HN.out]; exact hlt
      have c1 : ∃ b1 o1, a = some ⟨b1, o1, none⟩ ∧ wr.cell? ⟨b1, o1 + k, none⟩ = some (.int .u8 xs[k].toNat) := by
        obtain ⟨ao, c', hv, _, hc⟩ := h
        cases hv
        obtain ⟨b1, o1, ha, _, hcell⟩ := hc (by omega)
        exact ⟨b1, o1, ha, hcell k hlt'⟩
      obtain ⟨b1, o1, rfl, c1⟩ := c1
      have hd' := hd.out
      rw [List.drop_eq_getElem_cons hlt'] at hd'
      unfold allIn at hd'
      rw [List.all_cons] at hd'
      have hlti : (k : Int) < (n : Int) := by omega
      clear hr hd
      generalize hx : (xs[k]).toNat = x at *
      by_cases p1 : x < l
      · have p1' : decide ((x : Int) < (l : Int)) = true := decide_eq_true (by omega)
        have hr2 : r = false := by rw [← hd', decide_eq_false (by omega : ¬ l ≤ x)]; rfl
        subst hr2
        clear hd'
        go_wp2
        go_ret
        exact ⟨rfl, rfl⟩
      · have p1' : decide ((x : Int) < (l : Int)) = false := decide_eq_false (by omega)
        by_cases p2 : u < x
        · have p2' : decide ((u : Int) < (x : Int)) = true := decide_eq_true (by omega)
          have hr2 : r = false := by rw [← hd', decide_eq_false (by omega : ¬ x ≤ u), Bool.and_false]; rfl
          subst hr2
          clear hd'
          go_wp2
          go_ret
          exact ⟨rfl, rfl⟩
        · have p2' : decide ((u : Int) < (x : Int)) = false := decide_eq_false (by omega)
          have HD : Hid (allIn (xs.drop (k + 1)) l u = r) := by
            rw [decide_eq_true (by omega : l ≤ x), decide_eq_true (by omega : x ≤ u)] at hd'
            exact hd'
          clear hd'
          go_wp2
          go_roundw
          case rel => exact ⟨k + 1, by omega, by go_num, HD, trivial⟩
          case measure => simp [intOf]; omega
    · have hr2 : r = true := by
        have := hd.out
        rw [List.drop_eq_nil_of_le (by rw [HN.out]; omega)] at this
        exact this.symm
      subst hr2
      clear hd hr
      go_wp2
      go_ret
      exact ⟨rfl, rfl⟩

theorem spelled_nil (w : World) (a : Option Addr) (n c : Nat) (hn : Hid (n = 0)) : Calls Try.prog 11 #[.slice a n c] w fun e w' => e = .returned (.tuple #[.bool false, .bool false]) ∧ w' = w := by
  have h1 : ((n : Int) == 0) = true := by rw [hn.out]; rfl
  go_enter Try.func11, Try.ntmps11
  go_wp2
  go_ret2
  exact ⟨rfl, rfl⟩

set_option maxHeartbeats 1000000 in
theorem spelled_one (w : World) (g n : Nat) (x : UInt8) (h : Reads w (.slice (some ⟨g, 0, none⟩) n n) [x]) (t1 t2 : Bool) (q1 : (((lo x).toNat : Int) == 116) = t1) (q2 : (((lo x).toNat : Int) == 102) = t2) :
    Calls Try.prog 11 #[.slice (some ⟨g, 0, none⟩) n n] w fun e w' => e = .returned (.tuple #[.bool t1, .bool (t1 || t2)]) ∧ Below w.heap.size w w' := by
  have HN : Hid (1 = n) := h.len
  have h1 : ((n : Int) == 0) = false := by rw [← HN.out]; rfl
  have h2 : ((n : Int) == 1) = true := by rw [← HN.out]; rfl
  have h3 : (0 : Int) < (n : Int) := by rw [← HN.out]; decide
  have hl : n ≤ 1000000000000 := by rw [← HN.out]; decide
  go_enter Try.func11, Try.ntmps11
  go_wp2_with fail
  refine (lower_any _ _ _ _ [x] h hl).mono ?_
  rintro e w1 ⟨rfl, RL, bA⟩
  have cL : w1.cell? ⟨w.heap.size, 0, none⟩ = some (.int .u8 (lo x).toNat) := RL.first rfl
  clear RL h
  cases t1
  · cases t2
    all_goals
      go_wp2_with fail
      go_ret2
      exact ⟨rfl, bA⟩
  · go_wp2_with fail
    go_ret2
    exact ⟨rfl, bA⟩

set_option maxHeartbeats 2000000 in
theorem spelled_many (w : World) (g n : Nat) (xs : List UInt8) (h : Reads w (.slice (some ⟨g, 0, none⟩) n n) xs) (hn2 : 2 ≤ n) (hl : n ≤ 1000000000000) (x0 : UInt8) (h0 : Hid (xs.head? = some x0))
    (t1 t2 A1 A2 u1 u2 : Bool) (q1 : ((bs (xs.map lo)).toList == [116, 114, 117, 101]) = t1) (q2 : ((bs (xs.map lo)).toList == [102, 97, 108, 115, 101]) = t2)
    (hA1 : Hid (allIn xs.tail 97 122 = A1)) (hA2 : Hid (allIn xs.tail 65 90 = A2)) (hu1 : decide ((65 : Int) ≤ (x0.toNat : Int)) = u1) (hu2 : decide ((x0.toNat : Int) ≤ 90) = u2)
    (v ok : Bool) (hV : Hid (((t1 || t2) && (A1 || (A2 && (u1 && u2))) && t1) = v)) (hO : Hid (((t1 || t2) && (A1 || (A2 && (u1 && u2)))) = ok)) :
    Calls Try.prog 11 #[.slice (some ⟨g, 0, none⟩) n n] w fun e w' => e = .returned (.tuple #[.bool v, .bool ok]) ∧ Below w.heap.size w w' := by
  have h1 : ((n : Int) == 0) = false := beq_eq_false_iff_ne.2 (by omega)
  have h2 : ((n : Int) == 1) = false := beq_eq_false_iff_ne.2 (by omega)
  have h3 : (0 : Int) < (n : Int) := by omega
  have q1' : ((bs (xs.map lo)).toList != [116, 114, 117, 101]) = !t1 := by rw [bne, q1]
  have q2' : ((bs (xs.map lo)).toList != [102, 97, 108, 115, 101]) = !t2 := by rw [bne, q2]
  have s2 : ∀ W, _ := fun W => row_tail g n (by omega) W
  go_enter Try.func11, Try.ntmps11
  go_wp2_with fail
  refine (lower_any _ _ _ _ xs h hl).mono ?_
  rintro e w1 ⟨rfl, RL, bA⟩
  replace h := h.below bA
  have kL := RL.conv
  have c0 : w1.cell? ⟨g, 0, none⟩ = some (.int .u8 x0.toNat) := h.first h0.out
  have RT := h.tail
  clear RL h
  cases t1 <;> cases t2
  · have hV1 := hV.out
    have hO1 := hO.out
    clear hV hO
    simp only [Bool.false_and, Bool.false_or] at hV1 hO1
    subst hV1 hO1
    go_wp2_with fail
    go_ret2
    exact ⟨rfl, bA⟩
  all_goals
    go_wp2_with fail
    refine (allIn_any _ _ _ _ _ RT 97 122 _ hA1 (by omega)).mono ?_
    rintro e w2 ⟨rfl, rfl⟩
    go_wp2_with fail
    refine (allIn_any _ _ _ _ _ RT 65 90 _ hA2 (by omega)).mono ?_
    rintro e w2 ⟨rfl, rfl⟩
    cases u1 <;> cases u2 <;> cases A1 <;> cases A2
    all_goals
      have hV1 := hV.out
      have hO1 := hO.out
      clear hV hO
      simp only [Bool.false_and, Bool.true_and, Bool.and_true, Bool.and_false, Bool.false_or, Bool.true_or, Bool.or_true, Bool.or_false] at hV1 hO1
      subst hV1 hO1
      go_wp2_with fail
      go_ret2
      exact ⟨rfl, bA⟩

theorem lo_one (x : UInt8) (d : UInt8) : ([x].map lo == [d]) = (((lo x).toNat : Int) == (d.toNat : Int)) := by
  rw [Bool.eq_iff_iff, beq_iff_eq, beq_iff_eq]
  constructor
  · intro e; simp only [List.map_cons, List.map_nil, List.cons.injEq, and_true] at e; rw [e]
  · intro e; simp only [List.map_cons, List.map_nil, List.cons.injEq, and_true]; apply UInt8.toNat_inj.1; omega

/-- zzSpelledModel at a slice that the law has made -/
theorem spelled_any (w : World) (g n : Nat) (xs : List UInt8) (h : Reads w (.slice (some ⟨g, 0, none⟩) n n) xs) (hl : n ≤ 1000000000000) (v ok : Bool) (hV : Hid (smv xs = v)) (hO : Hid (smk xs = ok)) :
    Calls Try.prog 11 #[.slice (some ⟨g, 0, none⟩) n n] w fun e w' => e = .returned (.tuple #[.bool v, .bool ok]) ∧ Below w.heap.size w w' := by
  have hn := h.len
  match xs, h, hV, hO, hn with
  | [], h, hV, hO, hn =>
    refine (spelled_nil w _ n n hn.symm).mono ?_
    rintro e w' ⟨rfl, rfl⟩
    rw [← hV.out, ← hO.out]
    exact ⟨rfl, Below.refl _ _⟩
  | [x], h, hV, hO, hn =>
    refine (spelled_one w g n x h _ _ rfl rfl).mono ?_
    rintro e w' ⟨rfl, b⟩
    refine ⟨?_, b⟩
    have e1 : v = (((lo x).toNat : Int) == 116) := by rw [← hV.out]; exact lo_one x 116
    have e2 : ok = ((((lo x).toNat : Int) == 116) || (((lo x).toNat : Int) == 102)) := by
      rw [← hO.out]
      show ([x].map lo == [116] || [x].map lo == [102]) = _
      rw [lo_one x 116, lo_one x 102]
      rfl
    rw [e1, e2]
  | x0 :: x1 :: xt, h, hV, hO, hn =>
    have hn2 : 2 ≤ n := by rw [← hn]; simp
    have T1 : tailOk (x0 :: x1 :: xt) = (allIn (x0 :: x1 :: xt).tail 97 122 || (allIn (x0 :: x1 :: xt).tail 65 90 && (decide ((65 : Int) ≤ (x0.toNat : Int)) && decide ((x0.toNat : Int) ≤ 90)))) := by
      unfold tailOk
      congr 2
      unfold allIn
      rw [List.take_succ_cons, List.take_zero, List.all_cons, List.all_nil, Bool.and_true]
      congr 1
      · exact decide_eq_decide.2 (by omega)
      · exact decide_eq_decide.2 (by omega)
    have I1 : isTrue (x0 :: x1 :: xt) = ((bs ((x0 :: x1 :: xt).map lo)).toList == [116, 114, 117, 101]) := by unfold isTrue; rw [bs_toList]
    have I2 : isFalse (x0 :: x1 :: xt) = ((bs ((x0 :: x1 :: xt).map lo)).toList == [102, 97, 108, 115, 101]) := by unfold isFalse; rw [bs_toList]
    refine spelled_many w g n (x0 :: x1 :: xt) h hn2 hl x0 rfl _ _ _ _ _ _ rfl rfl rfl rfl rfl rfl v ok ?_ ?_
    · unfold Hid
      rw [← hV.out, ← I1, ← I2, ← T1]
      rfl
    · unfold Hid
      rw [← hO.out, ← I1, ← I2, ← T1]
      rfl
end Go.Proofs.Qxb6630438a
