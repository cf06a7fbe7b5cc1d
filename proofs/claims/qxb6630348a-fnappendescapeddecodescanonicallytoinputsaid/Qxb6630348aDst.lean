import Derived.Test.Qxb6630348aEsc
import Derived.Deep.AppendSrc
namespace Go.Proofs.Qxb6630348a
set_option linter.unusedSimpArgs false
open Go.RowKit

/-- a slice without spare capacity, in memory below block B -/
def Full (w : World) (B : Nat) (v0 : Value) (x0 : List UInt8) : Prop :=
  ∃ ao : Option Addr, v0 = .slice ao x0.length x0.length ∧ (ao = none → x0 = []) ∧ (0 < x0.length → ∃ b off, ao = some ⟨b, off, none⟩ ∧ b < B ∧ ∀ i (h : i < x0.length), w.cell? ⟨b, off + i, none⟩ = some (.int .u8 x0[i].toNat))

theorem Full.below {w w' : World} {B : Nat} {v0 : Value} {x0 : List UInt8} (h : Full w B v0 x0) (hb : Below B w w') : Full w' B v0 x0 := by
  obtain ⟨ao, rfl, hn, hc⟩ := h
  refine ⟨ao, rfl, hn, fun h0 => ?_⟩
  obtain ⟨b, off, rfl, hlt, hcell⟩ := hc h0
  exact ⟨b, off, rfl, hlt, fun i hi => by rw [hb.cell (p := ⟨b, off + i, none⟩) hlt]; exact hcell i hi⟩

/-- what append has made so far: a slice of the call's own, or still the full one that came in -/
def Dst (B : Nat) (v0 : Value) (x0 : List UInt8) (w : World) (d : Value) (xs : List UInt8) : Prop :=
  Owns w B d xs ∨ (d = v0 ∧ xs = x0 ∧ Full w B v0 x0)

theorem Dst.alloc {B : Nat} {v0 : Value} {x0 : List UInt8} {w : World} {d : Value} {xs : List UInt8} (h : Dst B v0 x0 w d xs) (hB : B ≤ w.heap.size) (o : Obj) : Dst B v0 x0 (w.alloc o) d xs := by
  rcases h with h | ⟨h1, h2, h3⟩
  · exact Or.inl (h.alloc o)
  · exact Or.inr ⟨h1, h2, h3.below ((Below.refl _ _).alloc hB o)⟩

/-- append onto a full slice: nothing, or a new row -/
theorem run_append_full (w : World) (B : Nat) (v0 : Value) (x0 : List UInt8) (hF : Full w B v0 x0) (hB : B ≤ w.heap.size) (tx ty : TypeId) (x : Value) (ys : List UInt8) (hs : Src Try.prog 1 tx x ys.length (bc ys) w) (hbytes : x0.length + ys.length ≤ 140737488355328) :
    ∃ v' w', (Builtin.append_ #[22, tx] ty #[v0, x]).run Try.prog w = .ok v' w' ∧ Dst B v0 x0 w' v' (x0 ++ ys) ∧ Below B w w' := by
  obtain ⟨i0, hi, hz0, hz1, hz2⟩ := info_parts Try.info5
  obtain ⟨ao, rfl, hn, hc⟩ := id hF
  have hs' : Src Try.prog i0.size tx x ys.length (bc ys) w := by rw [hz1]; exact hs
  by_cases h0 : ys.length = 0
  · have hy : ys = [] := List.eq_nil_of_length_eq_zero h0
    subst hy
    refine ⟨.slice ao x0.length x0.length, w, ?_, Or.inr ⟨rfl, by rw [List.append_nil], hF⟩, Below.refl _ _⟩
    have hfc : (Builtin.firstCells 1 0 x).run Try.prog w = .ok #[] w := hs.cells
    have hln : ∀ w', (Builtin.lenOf x).run Try.prog w' = .ok 0 w' := hs.len
    rcases hs'.kind with ⟨e', hk⟩ | hk <;> cases ao <;> simp [Builtin.append_, run_underlying Try.underlying22, run_underlying hk, sizeOf, typeInfo, hi, hln, hfc, storeCells, hz1]
  · have hold : (Builtin.firstCells i0.size x0.length (.slice ao x0.length x0.length)).run Try.prog w.drew = .ok (bc x0).toArray w.drew := by
      cases ao with
      | none =>
        have := hn rfl
        subst this
        exact run_firstCells_none w.drew i0.size 0 0 0
      | some a =>
        refine run_firstCells_some w.drew i0.size x0.length a x0.length x0.length (bc x0) (by rw [bc_length, hz1, Nat.mul_one]) (fun j u hj => ?_)
        have hj' : j < x0.length := by have := (List.getElem?_eq_some_iff.1 hj).1; rwa [bc_length] at this
        obtain ⟨b, off, ha, hlt, hcell⟩ := hc (by omega)
        cases ha
        rw [bc_get _ _ hj'] at hj
        rw [add_off]
        exact (hcell j hj').trans hj
    have hfit : Builtin.nextslicecap (x0.length + ys.length) x0.length * i0.bytes ≤ 281474976710656 := growslice_fits (by omega) (by rw [hz2]; omega)
    have hr := run_append_grow_src (P := Try.prog) w 22 tx ty 5 i0 (.int .u8 0) Try.underlying22 hi hz0 ao x0.length x0.length (bc x0) hold x ys.length (bc ys) hs' (by omega) (by omega) hfit
    refine ⟨_, _, hr, Or.inl ?_, ((Below.refl B w).drew).alloc hB _⟩
    have hge := grownCap_ge w (x0.length + ys.length) x0.length 5
    have hcm := grownCap_le_maxLen w (x0.length + ys.length) x0.length 5 (by unfold maxLen; omega)
    refine ⟨by rw [bc_length, Nat.mul_one], Or.inr ⟨w.heap.size, _, _, by rw [List.length_append], hB, heap_alloc_new w.drew _, by rw [List.length_append]; exact hge, hcm, ?_, ?_⟩⟩
    · simp only [Array.size_append, List.size_toArray, size_zeroCells, List.length_append, bc_length]
      show _ + (_ - _) * 1 = _
      omega
    · rw [Nat.mul_one, bc_append, Array.toList_append, List.toList_toArray]
      exact List.take_left' (by rw [List.length_append, List.length_append, bc_length, bc_length])

section
variable {w : World} {ops : Array Oper} {rest : List Oper} {dst : Option Tmp} {type : TypeId} {pos : String} {after : Array Edge} {a : Act} {Q : Exit → Act → World → Prop} {sl x : Operand}
  {B : Nat} {v0 : Value} {x0 : List UInt8} {v : Value} {xs : List UInt8}

theorem D_append_str (hown : Dst B v0 x0 w v xs) (s : ByteArray) (hbytes : xs.length + s.size ≤ 140737488355328) (hbase : B ≤ w.heap.size) (hs : a.eval sl = v) (hx : a.eval x = .string s)
    (h : ∀ v' w', Dst B v0 x0 w' v' (xs ++ s.data.toList) → Below B w w' → wpList Try.prog ops Q rest (a.put dst v') w') :
    wpList Try.prog ops Q ({ dst := dst, op := .call { callee := .builtin .append, args := #[sl, x], argTypes := #[22, 9] }, type := type, pos := pos, after := after, guard := none } :: rest) a w := by
  rcases hown with hown | ⟨rfl, rfl, hF⟩
  · exact at_append_str hown s hbytes hbase hs hx (fun v' w' h1 h2 => h v' w' (Or.inl h1) h2)
  · have hS : Src Try.prog 1 9 (.string s) s.data.toList.length (bc s.data.toList) w := by
      have := Src.ofString w (P := Try.prog) (tx := 9) Try.underlying9 s
      rw [Array.length_toList]
      exact this
    obtain ⟨v', w', hr, h1, h2⟩ := run_append_full w B v xs hF hbase 9 type (.string s) s.data.toList hS (by simpa using hbytes)
    refine wpList_plain rfl fun K hK => ?_
    unfold Oper.wp execOp
    simp only [resolve, invoke, builtin, Sem.run_bind, Sem.run_pure, Result.andThen_ok, List.map_toArray, List.map_cons, List.map_nil, hs, hx, hr]
    exact hK _ _ (h v' w' h1 h2)

theorem D_append_sl (hown : Dst B v0 x0 w v xs) (ys : List UInt8) (ad : Addr) (m c : Nat) (hm : ys.length = m) (hnews : ∀ j u, (bc ys)[j]? = some u → w.cell? (ad.add j) = some u)
    (hbytes : xs.length + m ≤ 140737488355328) (hbase : B ≤ w.heap.size) (hs : a.eval sl = v) (hx : a.eval x = .slice (some ad) m c)
    (h : ∀ v' w', Dst B v0 x0 w' v' (xs ++ ys) → Below B w w' → wpList Try.prog ops Q rest (a.put dst v') w') :
    wpList Try.prog ops Q ({ dst := dst, op := .call { callee := .builtin .append, args := #[sl, x], argTypes := #[22, 22] }, type := type, pos := pos, after := after, guard := none } :: rest) a w := by
  rcases hown with hown | ⟨rfl, rfl, hF⟩
  · exact at_append_sl hown ys ad m c hm hnews hbytes hbase hs hx (fun v' w' h1 h2 => h v' w' (Or.inl h1) h2)
  · subst hm
    have hS := Src.ofSlice w (P := Try.prog) (size := 1) (tx := 22) Try.underlying22 ad ys.length c (bc ys) (by rw [bc_length, Nat.mul_one]) hnews (bc_oneCell ys)
    obtain ⟨v', w', hr, h1, h2⟩ := run_append_full w B v xs hF hbase 22 type _ ys hS hbytes
    refine wpList_plain rfl fun K hK => ?_
    unfold Oper.wp execOp
    simp only [resolve, invoke, builtin, Sem.run_bind, Sem.run_pure, Result.andThen_ok, List.map_toArray, List.map_cons, List.map_nil, hs, hx, hr]
    exact hK _ _ (h v' w' h1 h2)
end

theorem D_wp_append_sl {w : World} {o : Oper} {a : Act} {K : Act → World → Prop} {Q : Exit → Act → World → Prop} (sl x : Operand) (ho : o.op = .call { callee := .builtin .append, args := #[sl, x], argTypes := #[22, 22] })
    {B : Nat} {v0 : Value} {x0 : List UInt8} {v : Value} {xs : List UInt8} (hown : Dst B v0 x0 w v xs) (ys : List UInt8) (ad : Addr) (m c : Nat) (hm : ys.length = m) (hnews : ∀ j u, (bc ys)[j]? = some u → w.cell? (ad.add j) = some u)
    (hbytes : xs.length + m ≤ 140737488355328) (hbase : B ≤ w.heap.size) (hs : a.eval sl = v) (hx : a.eval x = .slice (some ad) m c)
    (h : ∀ v' w', Dst B v0 x0 w' v' (xs ++ ys) → Below B w w' → K (a.put o.dst v') w') : o.wp Try.prog a w K Q := by
  rcases hown with hown | ⟨rfl, rfl, hF⟩
  · exact wp_append_sl sl x ho hown ys ad m c hm hnews hbytes hbase hs hx (fun v' w' h1 h2 => h v' w' (Or.inl h1) h2)
  · subst hm
    have hS := Src.ofSlice w (P := Try.prog) (size := 1) (tx := 22) Try.underlying22 ad ys.length c (bc ys) (by rw [bc_length, Nat.mul_one]) hnews (bc_oneCell ys)
    obtain ⟨v', w', hr, h1, h2⟩ := run_append_full w B v xs hF hbase 22 o.type _ ys hS hbytes
    unfold Oper.wp execOp
    simp only [ho, resolve, invoke, builtin, Sem.run_bind, Sem.run_pure, Result.andThen_ok, List.map_toArray, List.map_cons, List.map_nil, hs, hx, hr]
    exact h v' w' h1 h2
end Go.Proofs.Qxb6630348a
