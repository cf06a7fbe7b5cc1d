import Derived.Test.Qxb6630348aDec
import Derived.Test.Qxb6630348aEscTwo
namespace Go.Proofs.Qxb6630348a
set_option linter.unusedSimpArgs false
open Go.RowKit

set_option maxHeartbeats 400000 in
theorem clone_full (w : World) (v : Value) (xs : List UInt8) (h : Reads w v xs) (hl : xs.length ≤ 1000000000000) :
    Calls Try.prog 6 #[v] w fun e w' => ∃ ao, e = .returned (.slice ao xs.length xs.length) ∧ Owns w' w.heap.size (.slice ao xs.length xs.length) xs ∧ Below w.heap.size w w' := by
  obtain ⟨ao, c, rfl, hnil, hc⟩ := h
  have hmk := run_make_row' (P := Try.prog) 22 5 (.int .u8 0) 1 Try.underlying22 Try.info5 rfl .i64 .i64 xs.length (by omega) (by omega)
  have hnl : ∀ (w : World) (a : Option Addr) (n c n' c' : Nat), (binOp .eql 22 (.slice a n c) (.slice none n' c')).run Try.prog w = .ok (.bool a.isNone) w := fun w a n c n' c' => Lib.run_eql_slice_nil w _ _ a n c n' c' Try.underlying22
  cases ao with
  | none =>
    have := hnil rfl
    subst this
    go_enter Try.func6, Try.ntmps6
    go_wp2
    go_ret
    exact ⟨none, rfl, Owns.nil _ _, Below.refl _ _⟩
  | some a =>
    obtain ⟨n, hn⟩ : ∃ n, Hid (xs.length = n) := ⟨_, rfl⟩
    obtain ⟨cur, hcur⟩ : ∃ cur : List Value, Hid (cur.toArray = madeCells #[.int .u8 0] n) := ⟨(madeCells #[.int .u8 0] n).toList, by unfold Hid; simp⟩
    have hcl : cur.length = n := by have := congrArg Array.size hcur.out; rw [size_madeCells] at this; simpa using this
    have hg := heap_alloc_new w (.cells cur.toArray 5)
    rw [hn.out] at hmk ⊢
    rw [← hcur.out] at hmk
    have hB : Below w.heap.size w (w.alloc (.cells cur.toArray 5)) := (Below.refl _ _).alloc (Nat.le_refl _) _
    have hsrc : 0 < (bc xs).length → (some ⟨w.heap.size, 0, none⟩ : Option Addr) = some ⟨w.heap.size, 0, none⟩ ∧ ∃ ad, (some a : Option Addr) = some ad ∧ ∀ j v, (bc xs)[j]? = some v → (w.alloc (.cells cur.toArray 5)).cell? (ad.add j) = some v := by
      intro h0
      rw [bc_length] at h0
      obtain ⟨b, off, ha, hlt, hcell⟩ := hc h0
      refine ⟨rfl, a, rfl, fun j v hj => ?_⟩
      have hj' : j < xs.length := by have := (List.getElem?_eq_some_iff.1 hj).1; rwa [bc_length] at this
      rw [bc_get _ _ hj'] at hj
      cases ha
      rw [add_off, hB.cell (p := ⟨b, off + j, none⟩) hlt, hcell j hj']
      exact hj
    have hlen : (bc xs).length = Nat.min n n := by rw [bc_length, hn.out]; simp
    have hfit : 0 + (bc xs).length ≤ cur.length := by rw [bc_length, hn.out, hcl]; omega
    have HSRC := (id hsrc : Hid _)
    have HLEN := (id hlen : Hid _)
    have HCL := (id hcl : Hid _)
    have HG := (id hg : Hid _)
    have HFIT := (id hfit : Hid _)
    clear hc hnil hsrc hlen hcl hg hfit
    go_enter Try.func6, Try.ntmps6
    go_wp2_with (first | ((with_reducible refine at_copy (elem := 5) (dp := some ⟨w.heap.size, 0, none⟩) (sp := some a) (dLen := n) (dCap := n) (sLen := n) (sCap := c) Try.underlying22 ?_ ?_ ?_ w.heap.size 0 cur 5 HG.out (bc xs) HLEN.out HSRC.out HFIT.out (bc_oneCell xs) w.heap.size w hB (Nat.le_refl _) ?_); kernel_rfl; rfl; rfl; intro w1 hw1 hb1))
    go_ret
    refine ⟨some ⟨w.heap.size, 0, none⟩, rfl, ⟨by rw [bc_length, Nat.mul_one], Or.inr ⟨w.heap.size, n, _, ?_, Nat.le_refl _, hw1.out, ?_, ?_, ?_, ?_⟩⟩, hb1⟩
    · rw [hn.out]
    · rw [hn.out]; exact Nat.le_refl _
    · unfold maxLen; have := hn.out; omega
    · rw [List.size_toArray, length_splice _ _ _ HFIT.out, HCL.out, Nat.mul_one]
    · have e : splice cur 0 (bc xs) = bc xs := by
        unfold splice
        rw [List.take_zero, List.nil_append, List.drop_eq_nil_of_le (by rw [HCL.out, bc_length, hn.out]; omega), List.append_nil]
      rw [e, List.toList_toArray, List.take_of_length_le (by rw [bc_length]; omega)]
/-- a slice of bytes with its capacity -/
def ReadsC (w : World) (ao : Option Addr) (c : Nat) (Y : List UInt8) : Prop := Y.length ≤ c ∧ Reads w (.slice ao Y.length c) Y

theorem Owns.readsC {w : World} {base : Nat} {ao : Option Addr} {c : Nat} {Y : List UInt8} (h : Owns w base (.slice ao Y.length c) Y) : ReadsC w ao c Y := by
  refine ⟨?_, h.reads⟩
  rcases h.2 with ⟨hv, h0⟩ | ⟨g, cap, cur, hv, _, _, hc, _⟩
  · omega
  · simp only [Value.slice.injEq] at hv; omega

theorem Full.readsC {w : World} {B : Nat} {v0 : Value} {x0 : List UInt8} (h : Full w B v0 x0) (hB : B ≤ w.heap.size) : ∃ ao, v0 = .slice ao x0.length x0.length ∧ ReadsC w ao x0.length x0 := by
  obtain ⟨ao, rfl, hn, hc⟩ := h
  refine ⟨ao, rfl, Nat.le_refl _, ao, x0.length, rfl, hn, fun h0 => ?_⟩
  obtain ⟨b, off, rfl, hlt, hcell⟩ := hc h0
  exact ⟨b, off, rfl, by omega, hcell⟩

theorem Dst.readsC {B : Nat} {v0 : Value} {x0 : List UInt8} {w : World} {d : Value} {Y : List UInt8} (h : Dst B v0 x0 w d Y) (hB : B ≤ w.heap.size) : ∃ ao c, d = .slice ao Y.length c ∧ ReadsC w ao c Y := by
  rcases h with h | ⟨rfl, rfl, h⟩
  · obtain ⟨ao, c, rfl, h'⟩ := h.form
    exact ⟨ao, c, rfl, h'.readsC⟩
  · obtain ⟨ao, e, h'⟩ := h.readsC hB
    exact ⟨ao, _, e, h'⟩

theorem Owns.full {w : World} {base B : Nat} {ao : Option Addr} {x0 : List UInt8} (h : Owns w base (.slice ao x0.length x0.length) x0) (hB : ∀ k, (Value.slice ao x0.length x0.length).ownBlock = some k → k < B) : Full w B (.slice ao x0.length x0.length) x0 := by
  obtain ⟨ao', c, e, hn, hc⟩ := h.reads
  simp only [Value.slice.injEq] at e
  obtain ⟨rfl, _, rfl⟩ := e
  refine ⟨ao, rfl, hn, fun h0 => ?_⟩
  obtain ⟨b, off, rfl, _, hcell⟩ := hc h0
  exact ⟨b, off, rfl, hB b rfl, hcell⟩

/-- 'out[:n]' -/
theorem ReadsC.head {w : World} {ao : Option Addr} {c : Nat} {xs ys Y : List UInt8} (hY : xs ++ ys = Y) (h : ReadsC w ao c Y) :
    ∃ a1, (∀ w', (Instr.slice 22 (.slice ao Y.length c) none (some (.int .i64 (xs.length : Int))) none).run Try.prog w' = .ok (.slice a1 xs.length c) w') ∧ Reads w (.slice a1 xs.length c) xs := by
  obtain ⟨i0, hi, hz0, hz1, hz2⟩ := info_parts Try.info5
  have hlY : xs.length + ys.length = Y.length := by rw [← hY, List.length_append]
  obtain ⟨hcap, ao', c', e, hn, hc⟩ := h
  simp only [Value.slice.injEq, true_and] at e
  obtain ⟨rfl, rfl⟩ := e
  have hle : (xs.length : Int) ≤ (c : Int) := by omega
  refine ⟨if c = 0 then ao else ao.map (·.add 0), fun w' => ?_, ?_⟩
  · simp [Instr.slice, run_underlying Try.underlying22, Instr.sliceBounds, run_sliceBound, sizeOf, typeInfo, hi, hz1, hle]
  · refine ⟨_, c, rfl, fun h => ?_, fun h0 => ?_⟩
    · cases ao with
      | none =>
        have := hn rfl
        subst this
        exact (List.append_eq_nil_iff.1 hY).1
      | some a => exfalso; split at h <;> simp at h
    · obtain ⟨b, off, rfl, hlt, hcell⟩ := hc (by omega)
      refine ⟨b, off, ?_, hlt, fun i hi' => ?_⟩
      · rw [if_neg (by omega)]; simp [add_off]
      · rw [hcell i (by omega)]
        subst hY
        rw [List.getElem_append_left hi']

/-- 'out[n:]' -/
theorem ReadsC.tail {w : World} {ao : Option Addr} {c : Nat} {xs ys Y : List UInt8} (hY : xs ++ ys = Y) (h : ReadsC w ao c Y) :
    ∃ a1 c1, (∀ w', (Instr.slice 22 (.slice ao Y.length c) (some (.int .i64 (xs.length : Int))) none none).run Try.prog w' = .ok (.slice a1 ys.length c1) w') ∧ Reads w (.slice a1 ys.length c1) ys := by
  obtain ⟨i0, hi, hz0, hz1, hz2⟩ := info_parts Try.info5
  have hlY : xs.length + ys.length = Y.length := by rw [← hY, List.length_append]
  obtain ⟨hcap, ao', c', e, hn, hc⟩ := h
  simp only [Value.slice.injEq, true_and] at e
  obtain ⟨rfl, rfl⟩ := e
  have hle : (xs.length : Int) ≤ (Y.length : Int) := by omega
  have hsub : Y.length - xs.length = ys.length := by omega
  refine ⟨if c = xs.length then ao else ao.map (·.add xs.length), c - xs.length, fun w' => ?_, ?_⟩
  · simp [Instr.slice, run_underlying Try.underlying22, Instr.sliceBounds, run_sliceBound, sizeOf, typeInfo, hi, hz1, hle, hsub]
  · refine ⟨_, _, rfl, fun h => ?_, fun h0 => ?_⟩
    · cases ao with
      | none =>
        have := hn rfl
        subst this
        exact (List.append_eq_nil_iff.1 hY).2
      | some a => exfalso; split at h <;> simp at h
    · obtain ⟨b, off, rfl, hlt, hcell⟩ := hc (by omega)
      refine ⟨b, off + xs.length, ?_, hlt, fun i hi' => ?_⟩
      · rw [if_neg (by omega)]; simp [add_off]
      · rw [Nat.add_assoc, hcell (xs.length + i) (by omega)]
        subst hY
        rw [List.getElem_append_right (by omega)]
        simp

theorem zz_back (w : World) (B : Nat) (v : Value) (xs : List UInt8) (s : ByteArray) (ys : List UInt8) (hys : Hid (xs ++ esc s.data.toList = ys)) (hF : Full w B v xs) (hbase : B ≤ w.heap.size) (hl : xs.length + 6 * s.size ≤ 1000000000000) :
    Calls Try.prog 7 #[v, .string s] w fun e w' => ∃ ao c, e = .returned (.slice ao ys.length c) ∧ ReadsC w' ao c ys ∧ Below B w w' := by
  rw [← hys.out]
  refine (zz_dst w B v xs v xs s (Or.inr ⟨rfl, rfl, hF⟩) hbase hl).mono ?_
  rintro e w' ⟨v', rfl, h1, h2⟩
  obtain ⟨ao, c, rfl, h3⟩ := h1.readsC (Nat.le_trans hbase h2.size)
  exact ⟨ao, c, rfl, h3, h2⟩

set_option maxHeartbeats 2000000 in
set_option maxRecDepth 100000 in
theorem back_walk (w : World) (a0 : Option Addr) (n0 c0 : Nat) (xs : List UInt8) (s : ByteArray) (hr : Reads w (.slice a0 n0 c0) xs) (hn0 : xs.length = n0) (hm : n0 ≤ maxLen) (hsm : s.size ≤ maxLen) :
    Calls Try.prog 3 #[.slice a0 n0 c0, .string s] w fun e w' => e = .returned (.bool true) ∧ Below w.heap.size w w' := by
  subst hn0
  have hmx := hm
  have hsx := hsm
  unfold maxLen at hm hsm
  go_enter Try.func3, Try.ntmps3
  go_wp2_with fail
  refine (bytesD_any w _ _ _ _ hmx hsx).mono ?_
  rintro e w' ⟨⟨b, rfl⟩, rfl⟩
  cases b
  · go_wp2_with fail
    go_ret
    exact ⟨rfl, Below.refl _ _⟩
  by_cases h1 : (1048576 : Int) < (xs.length : Int)
  · go_wp2_with fail
    go_ret
    exact ⟨rfl, Below.refl _ _⟩
  by_cases h2 : (1048576 : Int) < (s.size : Int)
  · go_wp2_with fail
    go_ret
    exact ⟨rfl, Below.refl _ _⟩
  by_cases h3 : (1048576 : Int) < (xs.length : Int) + (s.size : Int)
  · go_wp2_with fail
    go_ret
    exact ⟨rfl, Below.refl _ _⟩
  have hlx : xs.length ≤ 1048576 := by omega
  have hls : s.size ≤ 1048576 := by omega
  clear hmx hsx
  go_wp2_with fail
  refine (clone_full w _ xs hr (by omega)).mono ?_
  rintro e w1 ⟨av1, rfl, hO1, hB1⟩
  clear hr h1 h2 h3
  go_wp2_with fail
  refine (clone_own w1 _ xs hO1.reads (by omega)).mono ?_
  rintro e w2 ⟨av2, cv2, rfl, hO2, hB2⟩
  have hF1 : Full w2 w2.heap.size (.slice av1 xs.length xs.length) xs := (hO1.later hB2).full (fun k hk => (World.ownsRow.lt (hO1.later hB2) k hk).2)
  have hB02 : Below w.heap.size w w2 := below_chain hB1 hB2 hB1.size
  clear hO1 hB1 hB2
  go_wp2_with fail
  obtain ⟨Y, hY⟩ : ∃ Y, Hid (xs ++ esc s.data.toList = Y) := ⟨_, by unfold Hid; rfl⟩
  obtain ⟨T, hT⟩ : ∃ T, Hid (esc s.data.toList = T) := ⟨_, by unfold Hid; rfl⟩
  have hY2 : xs ++ T = Y := by rw [← hT.out]; exact hY.out
  have hTl : T.length ≤ 6 * s.size := by
    rw [← hT.out]
    have h1 := esc_length s.data.toList
    have h2 : s.data.toList.length = s.size := by simp
    omega
  have hYl : Y.length = xs.length + T.length := by rw [← hY2, List.length_append]
  refine (zz_back w2 w2.heap.size _ xs s Y hY hF1 (Nat.le_refl _) (by omega)).mono ?_
  rintro e w3 ⟨av3, cv3, rfl, hR3, hB3⟩
  have hRw := hO2.reads.below hB3
  have hB03 : Below w.heap.size w w3 := below_chain hB02 hB3 hB02.size
  obtain ⟨ah, hsh, hRh⟩ := hR3.head hY2
  obtain ⟨at1, ct1, hst, hRt⟩ := hR3.tail hY2
  have hnlt : ¬ ((Y.length : Int) < (xs.length : Int)) := by omega
  have HYl := (id hYl : Hid _)
  clear hF1 hO2 hB02 hB3 hR3 hY2 hYl
  go_wp2_with fail
  refine (same_any w3 _ _ xs hRh hRw (by omega)).mono ?_
  rintro e w4 ⟨rfl, q1, rfl⟩
  go_wp2_with fail
  refine (decode_any (w3.drewN q1) _ s.data.toList T hT (hRt.drewN q1) (by omega)).mono ?_
  rintro e w5 ⟨ad, cd, rfl, hO5, hB5⟩
  have hB05 : Below w.heap.size w w5 := below_chain (below_drewN hB03 q1) hB5 (below_drewN hB03 q1).size
  clear hRh hRw hRt hB03 hB5 hsh hst
  go_wp2_with fail
  refine (sameStr_any w5 _ s hO5.reads (by omega)).mono ?_
  rintro e w6 ⟨rfl, q2, rfl⟩
  go_wp2_with fail
  go_ret
  exact ⟨rfl, below_drewN hB05 q2⟩
end Go.Proofs.Qxb6630348a
