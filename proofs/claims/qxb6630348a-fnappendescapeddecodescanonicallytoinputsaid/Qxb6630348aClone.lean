import Derived.Test.Qxb6630348aBase
namespace Go.Proofs.Qxb6630348a
open Go.RowKit

/-- the copy's law with the operation written out -/
theorem at_copy {P : Program} {w : World} {ops : Array Oper} {rest : List Oper} {dst : Option Tmp} {type : TypeId} {pos : String} {after : Array Edge} {a : Act} {Q : Exit → Act → World → Prop} {d s : Operand} {dT sT : TypeId}
    {elem : TypeId} (hu : P.underlying dT = some (.slice elem)) (hsz : (P.info? elem).map (·.size) = some 1)
    {dp sp : Option Addr} {dLen dCap sLen sCap : Nat} (hd : a.eval d = .slice dp dLen dCap) (hs : a.eval s = .slice sp sLen sCap)
    (g off : Nat) (cur : List Value) (t : TypeId) (hg : w.heap[g]? = some (.cells cur.toArray t (0, 0))) (cs : List Value) (hn : cs.length = Nat.min sLen dLen)
    (hpos : 0 < cs.length → dp = some ⟨g, off, none⟩ ∧ ∃ ad, sp = some ad ∧ ∀ j v, cs[j]? = some v → w.cell? (ad.add j) = some v)
    (hfit : off + cs.length ≤ cur.length) (h1 : ∀ v ∈ cs, v.oneCell' = true) (B : Nat) (w0 : World) (hb : Below B w0 w) (hBg : B ≤ g)
    (h : ∀ w', Hid (w'.heap[g]? = some (.cells (splice cur off cs).toArray t (0, 0))) → Below B w0 w' → wpList P ops Q rest (a.put dst (goInt cs.length)) w') :
    wpList P ops Q ({ dst := dst, op := .call { callee := .builtin .copy, args := #[d, s], argTypes := #[dT, sT] }, type := type, pos := pos, after := after, guard := none } :: rest) a w :=
  wpList_copy_splice rfl d s dT sT rfl elem hu hsz dp sp dLen dCap sLen sCap hd hs g off cur t hg cs hn hpos hfit h1 B w0 hb hBg h

set_option maxHeartbeats 400000 in
theorem clone_any (w : World) (v : Value) (xs : List UInt8) (h : Reads w v xs) (hl : xs.length ≤ 1000000000000) :
    Calls Try.prog 6 #[v] w fun e w' => ∃ v', e = .returned v' ∧ Owns w' w.heap.size v' xs ∧ Below w.heap.size w w' := by
  obtain ⟨ao, c, rfl, hnil, hc⟩ := h
  have hmk := run_make_row' (P := Try.prog) 22 5 (.int .u8 0) 1 Try.underlying22 Try.info5 rfl .i64 .i64 xs.length (by omega) (by omega)
  have hnl : ∀ (w : World) (a : Option Addr) (n c n' c' : Nat), (binOp .eql 22 (.slice a n c) (.slice none n' c')).run Try.prog w = .ok (.bool a.isNone) w := fun w a n c n' c' => Lib.run_eql_slice_nil w _ _ a n c n' c' Try.underlying22
  cases ao with
  | none =>
    have := hnil rfl
    subst this
    go_enter Try.func6, Try.ntmps6
    go_wp2
    go_ret
    exact ⟨_, rfl, Owns.nil _ _, Below.refl _ _⟩
  | some a =>
    obtain ⟨n, hn⟩ : ∃ n, Hid (xs.length = n) := ⟨_, rfl⟩
    obtain ⟨cur, hcur⟩ : ∃ cur : List Value, Hid (cur.toArray = madeCells #[.int .u8 0] n) := ⟨(madeCells #[.int .u8 0] n).toList, by unfold Hid; simp⟩
    have hcl : cur.length = n := by have := congrArg Array.size hcur.out; rw [size_madeCells] at this; simpa using this
    have hg := heap_alloc_new w (.cells cur.toArray 5)
    rw [hn.out] at hmk ⊢
    rw [← hcur.out] at hmk
    have hB : Below w.heap.size w (w.alloc (.cells cur.toArray 5)) := (Below.refl _ _).alloc (Nat.le_refl _) _
    have hsrc : 0 < (bc xs).length → (some ⟨w.heap.size, 0, none⟩ : Option Addr) = some ⟨w.heap.size, 0, none⟩ ∧ ∃ ad, (some a : Option Addr) = some ad ∧ ∀ j v, (bc xs)[j]? = some v → (w.alloc (.cells cur.toArray 5)).cell? (ad.add j) = some v := by
      intro h0
      rw [bc_length] at h0
      obtain ⟨b, off, ha, hlt, hcell⟩ := hc h0
      refine ⟨rfl, a, rfl, fun j v hj => ?_⟩
      have hj' : j < xs.length := by have := (List.getElem?_eq_some_iff.1 hj).1; rwa [bc_length] at this
      rw [bc_get _ _ hj'] at hj
      cases ha
      rw [add_off, hB.cell (p := ⟨b, off + j, none⟩) hlt, hcell j hj']
      exact hj
    have hlen : (bc xs).length = Nat.min n n := by rw [bc_length, hn.out]; simp
    have hfit : 0 + (bc xs).length ≤ cur.length := by rw [bc_length, hn.out, hcl]; omega
    have HSRC := (id hsrc : Hid _)
    have HLEN := (id hlen : Hid _)
    have HCL := (id hcl : Hid _)
    have HG := (id hg : Hid _)
    have HFIT := (id hfit : Hid _)
    clear hc hnil hsrc hlen hcl hg hfit
    go_enter Try.func6, Try.ntmps6
    go_wp2_with (first | ((with_reducible refine at_copy (elem := 5) (dp := some ⟨w.heap.size, 0, none⟩) (sp := some a) (dLen := n) (dCap := n) (sLen := n) (sCap := c) Try.underlying22 ?_ ?_ ?_ w.heap.size 0 cur 5 HG.out (bc xs) HLEN.out HSRC.out HFIT.out (bc_oneCell xs) w.heap.size w hB (Nat.le_refl _) ?_); kernel_rfl; rfl; rfl; intro w1 hw1 hb1))
    go_ret
    refine ⟨_, rfl, ⟨by rw [bc_length, Nat.mul_one], Or.inr ⟨w.heap.size, n, _, ?_, Nat.le_refl _, hw1.out, ?_, ?_, ?_, ?_⟩⟩, hb1⟩
    · rw [hn.out]; rfl
    · rw [hn.out]; exact Nat.le_refl _
    · unfold maxLen; have := hn.out; omega
    · rw [List.size_toArray, length_splice _ _ _ HFIT.out, HCL.out, Nat.mul_one]
    · have e : splice cur 0 (bc xs) = bc xs := by
        unfold splice
        rw [List.take_zero, List.nil_append, List.drop_eq_nil_of_le (by rw [HCL.out, bc_length, hn.out]; omega), List.append_nil]
      rw [e, List.toList_toArray, List.take_of_length_le (by rw [bc_length]; omega)]
end Go.Proofs.Qxb6630348a
