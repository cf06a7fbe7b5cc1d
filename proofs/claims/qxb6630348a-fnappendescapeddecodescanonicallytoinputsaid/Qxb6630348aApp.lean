import Derived.Test.Qxb6630348aClone
import Derived.Lib.Strings
namespace Go.Proofs.Qxb6630348a
open Go.RowKit

theorem Owns.alloc {w : World} {base : Nat} {v : Value} {xs : List UInt8} (h : Owns w base v xs) (o : Obj) : Owns (w.alloc o) base v xs := World.ownsRow.alloc h o

theorem below_append {w w' : World} {base : Nat} {v : Value} {xs : List UInt8} (h : Owns w base v xs) (hbase : base ≤ w.heap.size) (hg : w.grownBy w' v.ownBlock) : Below base w w' :=
  (Below.refl base w).grown hg hbase (fun k hk => (World.ownsRow.lt h k hk).1)

/-- 'append(dst, s...)', dst of the call's own, s a string -/
theorem at_append_str {w : World} {ops : Array Oper} {rest : List Oper} {dst : Option Tmp} {type : TypeId} {pos : String} {after : Array Edge} {a : Act} {Q : Exit → Act → World → Prop} {sl x : Operand}
    {base : Nat} {v : Value} {xs : List UInt8} (hown : Owns w base v xs) (s : ByteArray) (hbytes : xs.length + s.size ≤ 140737488355328) (hbase : base ≤ w.heap.size) (hs : a.eval sl = v) (hx : a.eval x = .string s)
    (h : ∀ v' w', Owns w' base v' (xs ++ s.data.toList) → Below base w w' → wpList Try.prog ops Q rest (a.put dst v') w') :
    wpList Try.prog ops Q ({ dst := dst, op := .call { callee := .builtin .append, args := #[sl, x], argTypes := #[22, 9] }, type := type, pos := pos, after := after, guard := none } :: rest) a w := by
  obtain ⟨i0, hi, hz0, hz1, hz2⟩ := info_parts Try.info5
  refine Lib.wpList_append_own_string w rfl sl x 22 9 rfl base 5 i0 Try.underlying22 Try.underlying9 hi hz0 hz1 hz2 v xs.length (bc xs) hs hown s hx (by unfold maxLen; omega) hbytes hbase ?_
  intro v' w' h1 h2 _
  refine h v' w' ?_ (below_append hown hbase h2)
  unfold Owns
  rw [bc_append, List.length_append, Array.length_toList]
  exact h1

/-- 'append(dst, a, b, ..)', dst of the call's own -/
theorem at_append_sl {w : World} {ops : Array Oper} {rest : List Oper} {dst : Option Tmp} {type : TypeId} {pos : String} {after : Array Edge} {a : Act} {Q : Exit → Act → World → Prop} {sl x : Operand}
    {base : Nat} {v : Value} {xs : List UInt8} (hown : Owns w base v xs) (ys : List UInt8) (ad : Addr) (m c : Nat) (hm : ys.length = m) (hnews : ∀ j u, (bc ys)[j]? = some u → w.cell? (ad.add j) = some u)
    (hbytes : xs.length + m ≤ 140737488355328) (hbase : base ≤ w.heap.size) (hs : a.eval sl = v) (hx : a.eval x = .slice (some ad) m c)
    (h : ∀ v' w', Owns w' base v' (xs ++ ys) → Below base w w' → wpList Try.prog ops Q rest (a.put dst v') w') :
    wpList Try.prog ops Q ({ dst := dst, op := .call { callee := .builtin .append, args := #[sl, x], argTypes := #[22, 22] }, type := type, pos := pos, after := after, guard := none } :: rest) a w := by
  obtain ⟨i0, hi, hz0, hz1, hz2⟩ := info_parts Try.info5
  refine wpList_append_own w rfl sl x 22 rfl base 5 i0 (.int .u8 0) 1 1 Try.underlying22 hi hz0 hz1 hz2 rfl (by decide) v xs.length (bc xs) hs hown ad m c (bc ys) hx (by rw [bc_length, Nat.mul_one]; exact hm) hnews (bc_oneCell ys) (by unfold maxLen; omega) (by omega) hbase ?_
  intro v' w' h1 h2 _
  refine h v' w' ?_ (below_append hown hbase h2)
  unfold Owns
  rw [bc_append, List.length_append, hm]
  exact h1

/-- the cells of a block just laid -/
theorem news_of_alloc (w : World) (ys : List UInt8) (cs : Array Value) (h : cs.toList = bc ys) : ∀ j u, (bc ys)[j]? = some u → (w.alloc (.cells cs 5)).cell? ((⟨w.heap.size, 0, none⟩ : Addr).add j) = some u := by
  intro j u hj
  rw [add_off, Nat.zero_add, cell_of_row _ _ _ _ _ _ (heap_alloc_new w _)]
  rw [← hj, ← h]
  simp

/-! the two steps of a round -/
def Plain (c : UInt8) : Prop := 32 ≤ c.toNat ∧ c.toNat ≠ 34 ∧ c.toNat ≠ 92

theorem step_run (xs : List UInt8) (s : ByteArray) (j k : Nat) (hj : j ≤ k) (hp : ∀ c ∈ (s.data.toList.take k).drop j, Plain c) :
    (xs ++ esc (s.data.toList.take j)) ++ (s.extract j k).data.toList = xs ++ esc (s.data.toList.take k) := by
  have e1 : (s.extract j k).data.toList = (s.data.toList.take k).drop j := by
    rw [Lib.extract_data]
    simp [List.drop_take]
  have e2 : s.data.toList.take k = s.data.toList.take j ++ (s.data.toList.take k).drop j := by
    have := List.take_append_drop j (s.data.toList.take k)
    rw [List.take_take, Nat.min_eq_left hj] at this
    exact this.symm
  rw [e1]
  conv => rhs; rw [e2, esc_append, esc_plain _ hp]
  rw [List.append_assoc]

theorem step_byte (xs : List UInt8) (s : ByteArray) (k : Nat) (hk : k < s.size) :
    (xs ++ esc (s.data.toList.take k)) ++ esc1 s[k] = xs ++ esc (s.data.toList.take (k + 1)) := by
  have : s.data.toList.take (k + 1) = s.data.toList.take k ++ [s[k]] := by
    rw [List.take_succ_eq_append_getElem (by simpa using hk)]; rfl
  rw [this, esc_append, esc_one, List.append_assoc]

theorem run_plain (s : ByteArray) (j k : Nat) (hj : j ≤ k) (hk : k < s.size) (hp : ∀ c ∈ (s.data.toList.take k).drop j, Plain c) (hc : Plain s[k]) : ∀ c ∈ (s.data.toList.take (k + 1)).drop j, Plain c := by
  have : s.data.toList.take (k + 1) = s.data.toList.take k ++ [s[k]] := by
    rw [List.take_succ_eq_append_getElem (by simpa using hk)]; rfl
  rw [this, List.drop_append_of_le_length (by simp; omega)]
  intro c h
  rcases List.mem_append.1 h with h | h
  · exact hp c h
  · rw [List.mem_singleton.1 h]; exact hc

theorem esc_take_le (s : ByteArray) (k : Nat) : (esc (s.data.toList.take k)).length ≤ 6 * s.size := by
  have h1 := esc_length (s.data.toList.take k)
  have h2 : (s.data.toList.take k).length ≤ s.size := by simp; omega
  omega
end Go.Proofs.Qxb6630348a
