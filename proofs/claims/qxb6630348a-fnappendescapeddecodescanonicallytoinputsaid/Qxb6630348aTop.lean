import Derived.Test.Qxb6630348aEsc
import Derived.Laws.AppendOwnNone
namespace Go.Proofs.Qxb6630348a
set_option linter.unusedSimpArgs false
open Go.RowKit

theorem Owns.form {w : World} {base : Nat} {v : Value} {xs : List UInt8} (h : Owns w base v xs) : ∃ ao c, v = .slice ao xs.length c ∧ Owns w base (.slice ao xs.length c) xs := by
  rcases id h.2 with ⟨rfl, h0⟩ | ⟨g, cap, cur, rfl, _⟩
  · exact ⟨none, 0, by rw [h0], by rw [h0]; exact h⟩
  · exact ⟨some ⟨g, 0, none⟩, cap, rfl, h⟩

/-- 'append(dst, src...)', dst of the call's own, src a slice that the call has made too -/
theorem at_append_own2 {w : World} {ops : Array Oper} {rest : List Oper} {dst : Option Tmp} {type : TypeId} {pos : String} {after : Array Edge} {a : Act} {Q : Exit → Act → World → Prop} {sl x : Operand}
    {base : Nat} {v : Value} {xs : List UInt8} (hown : Owns w base v xs) {base2 : Nat} {v2 : Value} {ys : List UInt8} (hown2 : Owns w base2 v2 ys)
    (hbytes : xs.length + ys.length ≤ 140737488355328) (hbase : base ≤ w.heap.size) (hs : a.eval sl = v) (hx : a.eval x = v2)
    (h : ∀ v' w', Owns w' base v' (xs ++ ys) → Below base w w' → wpList Try.prog ops Q rest (a.put dst v') w') :
    wpList Try.prog ops Q ({ dst := dst, op := .call { callee := .builtin .append, args := #[sl, x], argTypes := #[22, 22] }, type := type, pos := pos, after := after, guard := none } :: rest) a w := by
  obtain ⟨i0, hi, hz0, hz1, hz2⟩ := info_parts Try.info5
  rcases id hown2.2 with ⟨rfl, h0⟩ | ⟨g, cap, cur, rfl, _⟩
  · have hy : ys = [] := List.eq_nil_of_length_eq_zero h0
    subst hy
    refine wpList_append_own_none rfl sl x 22 rfl base 5 i0 1 Try.underlying22 hi v xs.length (bc xs) hs hown hx ?_
    exact h v w (by rw [List.append_nil]; exact hown) (Below.refl _ _)
  · exact at_append_sl hown ys ⟨g, 0, none⟩ ys.length cap rfl (World.ownsRow.cells hown2 (g := g) rfl) hbytes hbase hs hx h

theorem at_make_own {w : World} {ops : Array Oper} {rest : List Oper} {dst : Option Tmp} {type : TypeId} {pos : String} {after : Array Edge} {a : Act} {Q : Exit → Act → World → Prop} {l c : Operand} {C : Int} (n : Nat)
    (hl : a.eval l = .int .i64 0) (hc : a.eval c = .int .i64 C) (hC : C = (n : Int)) (hn : n ≤ 1000000000000)
    (hK : ∀ w', Owns w' w.heap.size (.slice (some ⟨w.heap.size, 0, none⟩) 0 n) [] → Below w.heap.size w w' → wpList Try.prog ops Q rest (a.put dst (.slice (some ⟨w.heap.size, 0, none⟩) 0 n)) w') :
    wpList Try.prog ops Q ({ dst := dst, op := .makeSlice 22 l c, type := type, pos := pos, after := after, guard := none } :: rest) a w := by
  obtain ⟨i0, hi, hz0, hz1, hz2⟩ := info_parts Try.info5
  refine wpList_make_own w rfl l c 22 rfl w.heap.size 5 i0 (.int .u8 0) 1 Try.underlying22 hi hz0 hz1 .i64 .i64 C n hl hc hC (by rw [hz2]; omega) (by unfold maxLen; omega) (Nat.le_refl _) ?_
  intro w' h1 h2
  exact hK w' h1 ((Below.refl _ _).grown h2 (Nat.le_refl _) (fun k hk => by cases hk))

theorem below_chain {B : Nat} {a b c : World} (h1 : Below B a b) (h2 : Below b.heap.size b c) (hB : B ≤ b.heap.size) : Below B a c := h1.trans (h2.mono hB)

theorem clone_own (w : World) (v : Value) (xs : List UInt8) (h : Reads w v xs) (hl : xs.length ≤ 1000000000000) :
    Calls Try.prog 6 #[v] w fun e w' => ∃ ao c, e = .returned (.slice ao xs.length c) ∧ Owns w' w.heap.size (.slice ao xs.length c) xs ∧ Below w.heap.size w w' := by
  refine (clone_any w v xs h hl).mono ?_
  rintro e w' ⟨v', rfl, h1, h2⟩
  obtain ⟨ao, c, rfl, h3⟩ := h1.form
  exact ⟨ao, c, rfl, h3, h2⟩

theorem zz_own (w : World) (base : Nat) (v : Value) (xs : List UInt8) (s : ByteArray) (ys : List UInt8) (hys : Hid (xs ++ esc s.data.toList = ys)) (hown : Owns w base v xs) (hbase : base ≤ w.heap.size) (hl : xs.length + 6 * s.size ≤ 1000000000000) :
    Calls Try.prog 7 #[v, .string s] w fun e w' => ∃ ao c, e = .returned (.slice ao ys.length c) ∧ Owns w' base (.slice ao ys.length c) ys ∧ Below base w w' := by
  rw [← hys.out]
  refine (zz_any w base v xs s hown hbase hl).mono ?_
  rintro e w' ⟨v', rfl, h1, h2⟩
  obtain ⟨ao, c, rfl, h3⟩ := h1.form
  exact ⟨ao, c, rfl, h3, h2⟩

theorem Owns.later {w w' : World} {base : Nat} {v : Value} {xs : List UInt8} (h : Owns w base v xs) (hb : Below w.heap.size w w') : Owns w' base v xs :=
  h.below hb (fun k hk => (World.ownsRow.lt h k hk).2)

theorem Reads.drewN {w : World} {v : Value} {xs : List UInt8} (h : Reads w v xs) (n : Nat) : Reads (w.drewN n) v xs := h.below (below_drewN (Below.refl _ _) n)

theorem split_law (xs : List UInt8) (s : ByteArray) (m : Nat) : (xs ++ esc (s.extract 0 m).data.toList) ++ esc (s.extract m s.size).data.toList = xs ++ esc s.data.toList := by
  rw [List.append_assoc, ← esc_append]
  congr 2
  rw [Lib.extract_data, Lib.extract_data, List.drop_zero, Nat.sub_zero]
  have e : (s.data.toList.drop m).take (s.size - m) = s.data.toList.drop m := List.take_of_length_le (by simp)
  rw [e, List.take_append_drop]

theorem escWidth_x (w : World) (c : UInt8) (x : Nat) (hx : Hid (c.toNat = x)) (E : Nat) (hE : Hid ((esc1 c).length = E)) : Calls Try.prog 12 #[.int .u8 (x : Int)] w fun e w' => e = .returned (.int .i64 (E : Int)) ∧ w = w' := by
  rw [← hx.out, ← hE.out]
  exact escWidth_any w c

theorem width_step (s : ByteArray) (k : Nat) (hk : k < s.size) : (esc (s.data.toList.take (k + 1))).length = (esc (s.data.toList.take k)).length + (esc1 s[k]).length := by
  have := congrArg List.length (step_byte [] s k hk)
  simpa using this.symm

set_option maxHeartbeats 600000 in
set_option maxRecDepth 100000 in
theorem splits_walk (w : World) (a0 : Option Addr) (n0 c0 : Nat) (xs : List UInt8) (s : ByteArray) (k : Int) (hr : Reads w (.slice a0 n0 c0) xs) (hn0 : xs.length = n0) (hm : n0 ≤ maxLen) (hsm : s.size ≤ maxLen) :
    Calls Try.prog 4 #[.slice a0 n0 c0, .string s, .int .i64 k] w fun e w' => e = .returned (.bool true) ∧ Below w.heap.size w w' := by
  subst hn0
  have hmx := hm
  have hsx := hsm
  unfold maxLen at hm hsm
  go_enter Try.func4, Try.ntmps4
  go_wp2_with fail
  refine (bytesS_any w _ _ _ _ _ hmx hsx).mono ?_
  rintro e w' ⟨⟨b, rfl⟩, rfl⟩
  cases b
  · go_wp2_with fail
    go_ret
    exact ⟨rfl, Below.refl _ _⟩
  by_cases h1 : (1048576 : Int) < (xs.length : Int)
  · go_wp2_with fail
    go_ret
    exact ⟨rfl, Below.refl _ _⟩
  by_cases h2 : (1048576 : Int) < (s.size : Int)
  · go_wp2_with fail
    go_ret
    exact ⟨rfl, Below.refl _ _⟩
  by_cases h3 : (1048576 : Int) < (xs.length : Int) + (s.size : Int)
  · go_wp2_with fail
    go_ret
    exact ⟨rfl, Below.refl _ _⟩
  by_cases h4 : k < 0
  · go_wp2_with fail
    go_ret
    exact ⟨rfl, Below.refl _ _⟩
  by_cases h5 : (s.size : Int) < k
  · go_wp2_with fail
    go_ret
    exact ⟨rfl, Below.refl _ _⟩
  obtain ⟨m, rfl⟩ : ∃ m : Nat, k = m := ⟨k.toNat, by omega⟩
  have hms : m ≤ s.size := by omega
  have hlx : xs.length ≤ 1048576 := by omega
  have hls : s.size ≤ 1048576 := by omega
  clear hmx hsx
  go_wp2_with fail
  refine (clone_own w _ xs hr (by omega)).mono ?_
  rintro e w1 ⟨av1, cv1, rfl, hO1, hB1⟩
  clear hr h1 h2 h3 h4 h5
  go_wp2_with fail
  refine (clone_own w1 _ xs hO1.reads (by omega)).mono ?_
  rintro e w2 ⟨av2, cv2, rfl, hO2, hB2⟩
  go_wp2_with fail
  go_loop [8, 9] (fun t i => ∃ j : Nat, j ≤ s.size ∧ i = .int .i64 j ∧ t = .int .i64 ((xs.length + (esc (s.data.toList.take j)).length : Nat) : Int)) (fun _ i => s.size - (intOf i).toNat)
  case atStart => exact ⟨0, Nat.zero_le _, rfl, by rw [List.take_zero, esc_nil, List.length_nil, Nat.add_zero]⟩
  case round =>
    obtain ⟨j, hj, rfl, rfl⟩ := hrel
    by_cases hlt : j < s.size
    · obtain ⟨x, hx⟩ : ∃ x : Nat, Hid (s[j].toNat = x) := ⟨s[j].toNat, by unfold Hid; rfl⟩
      have hix := idx_str s j hlt x hx.out
      have hlti : (j : Int) < (s.size : Int) := by omega
      have HW := (id (width_step s j hlt) : Hid _)
      have hle := esc_take_le s j
      have hw6 := esc1_length s[j]
      obtain ⟨T, hT⟩ : ∃ T : Nat, Hid (xs.length + (esc (s.data.toList.take j)).length = T) := ⟨_, rfl⟩
      have hTb : T ≤ 100000000 := by have := hT.out; omega
      obtain ⟨E, hE⟩ : ∃ E : Nat, Hid ((esc1 s[j]).length = E) := ⟨(esc1 s[j]).length, by unfold Hid; rfl⟩
      have hEb : E ≤ 6 := by rw [← hE.out]; exact hw6
      rw [hT.out]
      clear hle hw6
      go_wp2_with fail
      refine (escWidth_x w2 s[j] x hx E hE).mono ?_
      rintro e w' ⟨rfl, rfl⟩
      go_wp2_with fail
      go_round
      case rel =>
        refine ⟨j + 1, by omega, by go_num, ?_⟩
        rw [HW.out, hE.out, ← Nat.add_assoc, hT.out]
        go_num
      case measure => simp [intOf]; omega
    · have hjs : j = s.size := by omega
      subst hjs
      have ht : s.data.toList.take s.size = s.data.toList := List.take_of_length_le (by simp)
      have hle := esc_take_le s s.size
      rw [ht] at hle
      rw [ht]
      clear ht
      obtain ⟨L, hL⟩ : ∃ L : Nat, Hid (xs.length + (esc s.data.toList).length = L) := ⟨_, rfl⟩
      rw [hL.out]
      go_wp2_with fail
      have R2 := hO1.reads.below hB2
      have hB02 : Below w.heap.size w w2 := below_chain hB1 hB2 hB1.size
      clear hO1 hB1 hB2
      refine (clone_own w2 _ xs R2 (by omega)).mono ?_
      rintro e w3 ⟨av3, cv3, rfl, hO3, hB3⟩
      go_wp2_with fail
      obtain ⟨Y, hY⟩ : ∃ Y, Hid (xs ++ esc s.data.toList = Y) := ⟨_, rfl⟩
      refine (zz_own w3 w2.heap.size _ xs s Y hY hO3 hB3.size (by omega)).mono ?_
      rintro e w4 ⟨av4, cv4, rfl, hO4, hB4⟩
      have hB24 := hB3.trans hB4
      have R4 := R2.below hB24
      have hO2' := hO2.later hB24
      have hB04 : Below w.heap.size w w4 := below_chain hB02 hB24 hB02.size
      clear hO3 hB3 hB4 R2 hB24 hO2 hB02
      go_wp2_with fail
      refine wp_region_held_drew (S := fun _ => True) (by kernel_rfl) trivial (fun hHeld => ?_)
      refine wpAnyH_take (i := 0) (v := .slice av1 xs.length cv1) rfl (by kernel_rfl) (by kernel_rfl) (by kernel_rfl) (fun _ _ _ h => h) (Or.inl ⟨by rfl, fun w' _ => by go_simp⟩) hHeld ?_
      refine wpAnyH_take (i := 2) (v := .string s) rfl (by kernel_rfl) (by kernel_rfl) (by kernel_rfl) (fun _ _ _ h => h) (Or.inl ⟨by rfl, fun w' _ => by go_simp⟩) hHeld ?_
      refine wpAnyH_take (i := 3) (v := .int .i64 (m : Int)) rfl (by kernel_rfl) (by kernel_rfl) (by kernel_rfl) (fun _ _ _ h => h) (Or.inl ⟨by rfl, fun w' _ => by go_simp⟩) hHeld ?_
      try simp only [Act.put, List.setIfInBounds_toArray, List.set_cons_zero, List.set_cons_succ]
      have hmi : (m : Int) ≤ (s.size : Int) := by omega
      refine wpAnyH_take (i := 4) (v := .string (s.extract 0 m)) rfl (by kernel_rfl) (by kernel_rfl) (by kernel_rfl) (fun _ _ _ h => h) (Or.inl ⟨by rfl, fun w' _ => by go_simp⟩) hHeld ?_
      try simp only [Act.put, List.setIfInBounds_toArray, List.set_cons_zero, List.set_cons_succ]
      refine wpAnyH_ready (rs := [1]) (by kernel_rfl) (by simp) (AllReadyH.cons rfl (fun K hK => ?_) AllReadyH.nil)
      go_simp
      refine (clone_own w4.drew _ xs R4 (by omega)).mono ?_
      rintro e w5 ⟨av5, cv5, rfl, hO5, hB5⟩
      refine hK.out _ _ trivial (fun _ => ?_)
      clear hK K
      try simp only [Act.put, List.setIfInBounds_toArray, List.set_cons_zero, List.set_cons_succ]
      refine wpAnyH_ready (rs := [5]) (by kernel_rfl) (by simp) (AllReadyH.cons rfl (fun K hK => ?_) AllReadyH.nil)
      go_simp
      obtain ⟨Y1, hY1⟩ : ∃ Y1, Hid (xs ++ esc (s.extract 0 m).data.toList = Y1) := ⟨_, rfl⟩
      have hs1 : (s.extract 0 m).size ≤ s.size := by rw [ByteArray.size_extract]; omega
      have hs2 : (s.extract m s.size).size ≤ s.size := by rw [ByteArray.size_extract]; omega
      have hY1l : Y1.length ≤ xs.length + 6 * s.size := by
        rw [← hY1.out, List.length_append]
        have h1 := esc_length (s.extract 0 m).data.toList
        have h2 : (s.extract 0 m).data.toList.length = (s.extract 0 m).size := by simp
        omega
      refine (zz_own w5 w4.heap.size _ xs (s.extract 0 m) Y1 hY1 hO5 hB5.size (by omega)).mono ?_
      rintro e w6 ⟨av6, cv6, rfl, hO6, hB6⟩
      refine hK.out _ _ trivial (fun _ => ?_)
      clear hK K
      refine wpAnyH_take (i := 6) (v := .slice av6 Y1.length cv6) rfl (by kernel_rfl) (by kernel_rfl) (by kernel_rfl) (fun _ _ _ h => h) (Or.inl ⟨by rfl, fun w' _ => by go_simp⟩) trivial ?_
      refine wpAnyH_done (by kernel_rfl) ?_ _
      change Exit.then _ _ _ (Act.put _ (some 11) _) _
      simp only [Act.put, List.setIfInBounds_toArray, List.set_cons_zero, List.set_cons_succ]
      have hB46 : Below w4.heap.size w4 w6 := ((Below.refl w4.heap.size w4).drew.trans hB5).trans hB6
      clear hO5 hB5 hB6 hHeld R4
      go_wp2_with fail
      have hYs : Hid (Y1 ++ esc (s.extract m s.size).data.toList = Y) := by
        unfold Hid
        rw [← hY1.out, ← hY.out]
        exact split_law xs s m
      refine (zz_own w6 w4.heap.size _ Y1 (s.extract m s.size) Y hYs hO6 hB46.size (by omega)).mono ?_
      rintro e w7 ⟨av7, cv7, rfl, hO7, hB7⟩
      have hB47 := hB46.trans hB7
      clear hO6 hB46 hB7 hY1l hs1 hs2
      go_wp2_with fail
      obtain ⟨A, hA⟩ : ∃ A, Hid ([] ++ esc s.data.toList = A) := ⟨_, by unfold Hid; rfl⟩
      refine (zz_own w7 w7.heap.size _ [] s A hA (Owns.nil _ _) (Nat.le_refl _) (by rw [List.length_nil]; omega)).mono ?_
      rintro e w8 ⟨av8, cv8, rfl, hO8, hB8⟩
      have hAl : A.length ≤ 6 * s.size := by rw [← hA.out, List.nil_append]; exact hle
      have hO2'' := (hO2'.later hB47).later hB8
      have hO4' := (hO4.later hB47).later hB8
      have hO7' := hO7.later hB8
      have hB08 : Below w.heap.size w w8 := below_chain (below_chain hB04 hB47 hB04.size) hB8 (below_chain hB04 hB47 hB04.size).size
      clear hO2' hO4 hO7 hB47 hB8 hB04 hle
      have hAw : Hid (xs ++ A = Y) := by unfold Hid; rw [← hA.out, ← hY.out, List.nil_append]
      have hYL : ((Y.length : Int) == (L : Int)) = true := by
        rw [beq_iff_eq, ← hY.out, ← hL.out, List.length_append]
      have hYl : Y.length ≤ 100000000 := by rw [← hAw.out, List.length_append]; omega
      have HC : Hid ((xs.length : Int) + (A.length : Int) = ((xs.length + A.length : Nat) : Int)) := by unfold Hid; omega
      have HBd1 : Hid (([] : List UInt8).length + xs.length ≤ 140737488355328) := by unfold Hid; rw [List.length_nil]; omega
      have HBd2 : Hid (([] ++ xs : List UInt8).length + A.length ≤ 140737488355328) := by unfold Hid; rw [List.nil_append]; omega
      go_wp2_with (first | ((with_reducible refine at_make_own (xs.length + A.length) ?_ ?_ HC.out ?_ ?_); rfl; rfl; omega; intro w9 hO9 hB9) | ((with_reducible refine at_append_own2 hO9 (hO2''.later hB9) HBd1.out hB9.size ?_ ?_ ?_); rfl; rfl; intro v10 w10 hO10 hB10) | ((with_reducible refine at_append_own2 hO10 (hO8.later (hB9.trans hB10)) HBd2.out (Nat.le_trans hB9.size hB10.size) ?_ ?_ ?_); rfl; rfl; intro v11 w11 hO11 hB11))
      have hB8b := (hB9.trans hB10).trans hB11
      have R4 := (hO4'.later hB8b).reads
      have R7 := (hO7'.later hB8b).reads
      rw [List.nil_append, hAw.out] at hO11
      have R11 := hO11.reads
      have hB011 : Below w.heap.size w w11 := below_chain hB08 hB8b hB08.size
      clear hO9 hB9 hO10 hB10 hO11 hB11 hB8b hO2'' hO4' hO7' hO8 hB08 HC HBd1 HBd2
      refine (same_any w11 _ _ Y R4 R7 (by omega)).mono ?_
      rintro e w12 ⟨rfl, q1, rfl⟩
      go_wp2_with fail
      refine (same_any _ _ _ Y (R4.drewN q1) (R11.drewN q1) (by omega)).mono ?_
      rintro e w13 ⟨rfl, q2, rfl⟩
      go_wp2_with fail
      go_ret
      exact ⟨rfl, below_drewN hB011 (q1 + q2)⟩
end Go.Proofs.Qxb6630348a
