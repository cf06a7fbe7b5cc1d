import Derived.WalkKit
import Derived.Deep.OwnRows
import Derived.Laws.IdiomCopy
namespace Go.Proofs.Qxb6630305a
open Go.RowKit
section
variable {P : Program}

theorem run_loadVar_agg (w : World) (ad : Addr) (ty : TypeId) (cs : List Value) (d : TypeDesc) (hc : ∀ j v, cs[j]? = some v → w.cell? (ad.add j) = some v)
    (hu : P.underlying ty = some d) (hd : (match d with | .struct _ | .array _ _ => true | _ => false) = true) (hi : (P.info? ty).map (·.size) = some cs.length) :
    (loadVar ty ad).run P w = .ok (.agg cs.toArray) w := by
  have hl := run_loadCells_list (P := P) w ad cs hc
  cases hq : P.info? ty with
  | none => simp [hq] at hi
  | some i =>
    have hs : i.size = cs.length := by simpa [hq] using hi
    have hagg : (isAgg ty).run P w = .ok true w := by
      unfold isAgg
      rw [Sem.run_bind, run_underlying hu w]
      cases d <;> simp_all
    simp [loadVar, Sem.run_bind, hagg, sizeOf, typeInfo, hq, hs, hl]

/-- a struct loaded out of cells -/
theorem wpList_load_agg {ops : Array Oper} {rest : List Oper} {o : Oper} {a : Act} {w : World} {Q : Exit → Act → World → Prop} (hgd : o.guard = none) (ty : TypeId) (x : Operand) (ho : o.op = .load ty x)
    (ad : Addr) (hx : a.eval x = .pointer (some ad)) (cs : List Value) (d : TypeDesc) (hc : ∀ j v, cs[j]? = some v → w.cell? (ad.add j) = some v)
    (hu : P.underlying ty = some d) (hd : (match d with | .struct _ | .array _ _ => true | _ => false) = true) (hi : (P.info? ty).map (·.size) = some cs.length)
    (h : wpList P ops Q rest (a.put o.dst (.agg cs.toArray)) w) : wpList P ops Q (o :: rest) a w := by
  refine wpList_plain hgd fun K hK => ?_
  unfold Oper.wp execOp
  simp only [ho, hx, Instr.loadAt, Instr.sureAddr, Sem.run_bind, Sem.run_pure, Result.andThen_ok, run_loadVar_agg w ad ty cs d hc hu hd hi]
  exact hK _ _ h

theorem setRow_alloc (w : World) (c c' : Array Value) (t : TypeId) : (w.alloc (.cells c t)).setRow w.heap.size c' = w.alloc (.cells c' t) := by
  simp only [World.setRow, World.alloc]
  congr 1
  apply Array.ext_getElem?
  intro i
  by_cases h : i = w.heap.size
  · subst h; rw [Array.getElem?_modify]; simp
  · simp [Array.getElem?_modify, Array.getElem?_push, h, Ne.symm h]

theorem run_storeVar_new (w : World) (c c' : Array Value) (ty : TypeId) (hs : (P.info? ty).map (·.size) = some c'.size) (hz : c'.size = c.size) (h1 : ∀ v ∈ c'.toList, v.oneCell' = true) :
    (storeVar ty ⟨w.heap.size, 0, none⟩ (.agg c')).run P (w.alloc (.cells c ty)) = .ok () (w.alloc (.cells c' ty)) := by
  cases hq : P.info? ty with
  | none => simp [hq] at hs
  | some i =>
    have hs : i.size = c'.size := by simpa [hq] using hs
    have hst := run_storeCells_from (P := P) w.heap.size ty c'.toList 0 c (w.alloc (.cells c ty)) (heap_alloc_new w _) (by simp [hz]) h1
    simp only [List.take_zero, List.nil_append, Array.toArray_toList, setRow_alloc] at hst
    simp [storeVar, Sem.run_bind, sizeOf, typeInfo, hq, hs, Value.cells, hst]

/-- a struct stored into the block that was just laid for it -/
theorem wpList_store_new {ops : Array Oper} {rest : List Oper} {o : Oper} {a : Act} {w : World} {Q : Exit → Act → World → Prop} (hgd : o.guard = none) (ty : TypeId) (x y : Operand) (ho : o.op = .store ty x y)
    (c c' : Array Value) (hx : a.eval x = .pointer (some ⟨w.heap.size, 0, none⟩)) (hy : a.eval y = .agg c') (hs : (P.info? ty).map (·.size) = some c'.size) (hz : c'.size = c.size) (h1 : ∀ v ∈ c'.toList, v.oneCell' = true)
    (h : wpList P ops Q rest (a.put o.dst undef) (w.alloc (.cells c' ty))) : wpList P ops Q (o :: rest) a (w.alloc (.cells c ty)) := by
  refine wpList_plain hgd fun K hK => ?_
  unfold Oper.wp execOp
  simp only [ho, hx, hy, Instr.storeAt, Instr.sureAddr, Sem.run_bind, Sem.run_pure, Result.andThen_ok, run_storeVar_new (P := P) w c c' ty hs hz h1]
  exact hK _ _ h

/-- at address 'ad' of w lie the cells cs of a struct of type ty -/
structure LoadsAt (P : Program) (w : World) (ty : TypeId) (ad : Addr) (cs : List Value) : Prop where
  hc : ∀ j v, cs[j]? = some v → w.cell? (ad.add j) = some v
  hd : (match P.underlying ty with | some (.struct _) | some (.array _ _) => true | _ => false) = true
  hi : (P.info? ty).map (·.size) = some cs.length

/-- the operation written out, so that an offer at another operation falls at once ('with_reducible refine h.use ?_ ?_; rfl') -/
theorem LoadsAt.use {ops : Array Oper} {rest : List Oper} {dst : Option Tmp} {type : TypeId} {pos : String} {after : Array Edge} {a : Act} {w : World} {Q : Exit → Act → World → Prop} {ty : TypeId} {x : Operand}
    {ad : Addr} {cs : List Value} (hL : LoadsAt P w ty ad cs) (hx : a.eval x = .pointer (some ad))
    (h : wpList P ops Q rest (a.put dst (.agg cs.toArray)) w) : wpList P ops Q ({ dst := dst, op := .load ty x, type := type, pos := pos, after := after, guard := none } :: rest) a w := by
  have hd := hL.hd
  cases hu : P.underlying ty with
  | none => simp [hu] at hd
  | some d => exact wpList_load_agg rfl ty x rfl ad hx cs d hL.hc hu (by rw [hu] at hd; cases d <;> simp_all) hL.hi h

theorem at_store_new {ops : Array Oper} {rest : List Oper} {dst : Option Tmp} {type : TypeId} {pos : String} {after : Array Edge} {a : Act} {w : World} {Q : Exit → Act → World → Prop} {ty : TypeId} {x y : Operand}
    {c c' : Array Value} (hx : a.eval x = .pointer (some ⟨w.heap.size, 0, none⟩)) (hy : a.eval y = .agg c') (hs : (P.info? ty).map (·.size) = some c'.size) (hz : c'.size = c.size) (h1 : c'.toList.all (·.oneCell') = true)
    (h : wpList P ops Q rest (a.put dst undef) (w.alloc (.cells c' ty))) : wpList P ops Q ({ dst := dst, op := .store ty x y, type := type, pos := pos, after := after, guard := none } :: rest) a (w.alloc (.cells c ty)) :=
  wpList_store_new rfl ty x y rfl c c' hx hy hs hz (fun v hv => List.all_eq_true.1 h1 v hv) h

/-- a block of the call's own, all of it loaded -/
theorem LoadsAt.of_block {w : World} {g : Nat} {t ty : TypeId} {cs : List Value} {fr : Nat × Nat} (hg : w.heap[g]? = some (.cells cs.toArray t fr))
    (hd : (match P.underlying ty with | some (.struct _) | some (.array _ _) => true | _ => false) = true) (hi : (P.info? ty).map (·.size) = some cs.length) : LoadsAt P w ty ⟨g, 0, none⟩ cs := by
  refine ⟨fun j v hj => ?_, hd, hi⟩
  have hadd : (⟨g, 0, none⟩ : Addr).add j = ⟨g, j, none⟩ := by unfold Addr.add; split <;> simp_all
  rw [hadd, cell_of_row w g j _ t fr hg]
  simpa using hj

/-- cells of a row that may be written -/
structure StoresAt (P : Program) (w : World) (ty : TypeId) (b o n : Nat) : Prop where
  hc : ∀ j, j < n → (w.cell? ⟨b, o + j, none⟩).isSome = true
  hf : ∀ j, j < n → w.frozen? ⟨b, o + j, none⟩ = false
  hi : (P.info? ty).map (·.size) = some n

theorem run_storeVar_cells (w : World) (b o : Nat) (ty : TypeId) (cs : Array Value) (hS : StoresAt P w ty b o cs.size) (h1 : ∀ v ∈ cs.toList, v.oneCell' = true) :
    (storeVar ty ⟨b, o, none⟩ (.agg cs)).run P w = .ok () (w.setCells b o cs.toList) := by
  have hs := hS.hi
  cases hq : P.info? ty with
  | none => simp [hq] at hs
  | some i =>
    have hs : i.size = cs.size := by simpa [hq] using hs
    have hst := run_storeCells_cells (P := P) b o cs.toList 0 w (by simpa using hS.hc) (by simpa using hS.hf) h1
    simp only [Nat.add_zero] at hst
    simp [storeVar, Sem.run_bind, sizeOf, typeInfo, hq, hs, Value.cells, hst]

theorem StoresAt.use {ops : Array Oper} {rest : List Oper} {dst : Option Tmp} {type : TypeId} {pos : String} {after : Array Edge} {a : Act} {w : World} {Q : Exit → Act → World → Prop} {ty : TypeId} {x y : Operand}
    {b o : Nat} {cs : Array Value} (hS : StoresAt P w ty b o cs.size) (hx : a.eval x = .pointer (some ⟨b, o, none⟩)) (hy : a.eval y = .agg cs) (h1 : cs.toList.all (·.oneCell') = true)
    (h : wpList P ops Q rest (a.put dst undef) (w.setCells b o cs.toList)) : wpList P ops Q ({ dst := dst, op := .store ty x y, type := type, pos := pos, after := after, guard := none } :: rest) a w := by
  refine wpList_plain rfl fun K hK => ?_
  unfold Oper.wp execOp
  simp only [hx, hy, Instr.storeAt, Instr.sureAddr, Sem.run_bind, Sem.run_pure, Result.andThen_ok, run_storeVar_cells (P := P) w b o ty cs hS (fun v hv => List.all_eq_true.1 h1 v hv)]
  exact hK _ _ h

/-- what a row holds behind such a store -/
theorem rowIs_setCells {b : Nat} {t : TypeId} {m : Nat} : ∀ (vs : List Value) (o : Nat) {w : World} {f : Nat → Value}, w.rowIs b t m f →
    (w.setCells b o vs).rowIs b t m (fun j => if o ≤ j ∧ j < o + vs.length then vs.getD (j - o) undef else f j)
  | [], o, w, f, h => by
    refine h.congr fun i _ => ?_
    rw [if_neg (by simp)]
  | v :: vs, o, w, f, h => by
    refine (rowIs_setCells vs (o + 1) (h.set o v)).congr fun i _ => ?_
    show (if o + 1 ≤ i ∧ i < o + 1 + vs.length then vs.getD (i - (o + 1)) undef else if i = o then v else f i) = if o ≤ i ∧ i < o + (v :: vs).length then (v :: vs).getD (i - o) undef else f i
    rw [List.length_cons]
    by_cases h0 : i = o
    · subst h0
      rw [if_neg (by omega), if_pos rfl, if_pos (by omega), Nat.sub_self]
      rfl
    · by_cases h1 : o + 1 ≤ i ∧ i < o + 1 + vs.length
      · rw [if_pos h1, if_pos (by omega)]
        obtain ⟨d, rfl⟩ : ∃ d, i = o + 1 + d := ⟨i - (o + 1), by omega⟩
        rw [show o + 1 + d - (o + 1) = d by omega, show o + 1 + d - o = d + 1 by omega]
        simp
      · rw [if_neg h1, if_neg h0, if_neg (by omega)]

theorem block_setCells (b : Nat) : ∀ (vs : List Value) (o : Nat) (w : World) (k : Nat), k ≠ b → (w.setCells b o vs).heap[k]? = w.heap[k]?
  | [], _, _, _, _ => rfl
  | v :: vs, o, w, k, h => by rw [World.setCells, block_setCells b vs (o + 1) _ k h, heap_setCell_other _ _ _ _ h]

theorem below_setCells {B : Nat} {a : World} (b : Nat) (hB : B ≤ b) : ∀ (vs : List Value) (o : Nat) {w : World}, Below B a w → Below B a (w.setCells b o vs)
  | [], _, _, h => h
  | v :: vs, o, _, h => below_setCells b hB vs (o + 1) (h.setCell (p := ⟨b, o, none⟩) hB v)

theorem size_setCells (b : Nat) : ∀ (vs : List Value) (o : Nat) (w : World), (w.setCells b o vs).heap.size = w.heap.size
  | [], _, _ => rfl
  | v :: vs, o, w => by rw [World.setCells, size_setCells b vs]; simp [World.setCell]

/-- a whole block written anew -/
theorem block_setCells_whole {w : World} {b : Nat} {t : TypeId} {old : Array Value} (vs : List Value) (h : w.heap[b]? = some (.cells old t (0, 0))) (hn : old.size = vs.length) :
    (w.setCells b 0 vs).heap[b]? = some (.cells vs.toArray t (0, 0)) := by
  have h0 : w.rowIs b t vs.length (fun i => old.getD i undef) := ⟨old, h, hn, fun i hi => by
    rw [Array.getElem?_eq_getElem (by omega)]
    simp [show i < old.size by omega]⟩
  obtain ⟨c, hc, hs, hg⟩ := rowIs_setCells vs 0 h0
  rw [hc]
  congr 2
  apply Array.ext_getElem?
  intro i
  by_cases hi : i < vs.length
  · rw [hg i hi]
    show some (if 0 ≤ i ∧ i < 0 + vs.length then vs.getD (i - 0) undef else old.getD i undef) = _
    rw [if_pos ⟨Nat.zero_le _, by omega⟩]
    simp [hi, List.getD]
  · rw [Array.getElem?_eq_none (by omega), Array.getElem?_eq_none (by simp; omega)]
end
end Go.Proofs.Qxb6630305a
