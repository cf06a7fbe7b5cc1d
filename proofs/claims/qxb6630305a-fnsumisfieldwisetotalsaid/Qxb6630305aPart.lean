import Derived.Test.Qxb6630305aEq
import Derived.Deep.MidRow
namespace Go.Proofs.Qxb6630305a
open Go.RowKit

theorem FigC.of_row {w : World} {b m : Nat} {f : Nat → Value} {N : Nat → Int} {r : Bool} {o : Nat} (h : w.rowIs b 30 m f) (hm : o + 18 ≤ m) (hF : Fcells (fun j => f (o + j)) N r) : FigC w b o N r := by
  obtain ⟨x1, x2, ⟨a1, n1, q1, x3⟩, ⟨a2, n2, q2, x4⟩, ⟨a3, n3, q3, x5⟩⟩ := hF
  refine ⟨a1, a2, a3, n1, n2, n3, q1, q2, q3, ?_⟩
  have c : ∀ j, j < 18 → w.cell? ⟨b, o + j, none⟩ = some (f (o + j)) := fun j hj => h.cell (by omega)
  exact cells18 ((c 0 (by omega)).trans (congrArg some (x1 0 (by omega)))) ((c 1 (by omega)).trans (congrArg some (x1 1 (by omega)))) ((c 2 (by omega)).trans (congrArg some (x1 2 (by omega)))) ((c 3 (by omega)).trans (congrArg some (x1 3 (by omega)))) ((c 4 (by omega)).trans (congrArg some (x1 4 (by omega)))) ((c 5 (by omega)).trans (congrArg some (x1 5 (by omega)))) ((c 6 (by omega)).trans (congrArg some (x1 6 (by omega)))) ((c 7 (by omega)).trans (congrArg some (x1 7 (by omega)))) ((c 8 (by omega)).trans (congrArg some (x1 8 (by omega)))) ((c 9 (by omega)).trans (congrArg some (x1 9 (by omega)))) ((c 10 (by omega)).trans (congrArg some (x1 10 (by omega)))) ((c 11 (by omega)).trans (congrArg some (x1 11 (by omega)))) ((c 12 (by omega)).trans (congrArg some (x1 12 (by omega)))) ((c 13 (by omega)).trans (congrArg some (x1 13 (by omega)))) ((c 14 (by omega)).trans (congrArg some x2)) ((c 15 (by omega)).trans (congrArg some x3)) ((c 16 (by omega)).trans (congrArg some x4)) ((c 17 (by omega)).trans (congrArg some x5))

theorem FigsOut.form {w : World} {v : Value} {n : Nat} {C : Nat → Nat → Int} {R : Nat → Bool} (h : FigsOut w v n C R) : ∃ ao, v = .slice ao n n ∧ FigsOut w (.slice ao n n) n C R := by
  rcases id h with ⟨rfl, rfl⟩ | ⟨b, f, rfl, _, _⟩
  · exact ⟨_, rfl, h⟩
  · exact ⟨_, rfl, h⟩

theorem FigsOut.part {w : World} {ao : Option Addr} {n : Nat} {C : Nat → Nat → Int} {R : Nat → Bool} (h : FigsOut w (.slice ao n n) n C R) (hn : n ≤ 1000000000000) (lo m : Nat) (hm : lo + m ≤ n) (a1 : Option Addr) (c : Nat)
    (ha : 0 < m → ∀ b, ao = some ⟨b, 0, none⟩ → a1 = some ⟨b, lo * 18, none⟩) : FigsIn w (.slice a1 m c) m (fun i => C (lo + i)) (fun i => R (lo + i)) := by
  refine ⟨a1, c, rfl, by omega, fun hm0 => ?_⟩
  rcases h with ⟨_, rfl⟩ | ⟨b, f, hv, hr, hF⟩
  · omega
  · simp only [Value.slice.injEq, and_true] at hv
    refine ⟨b, lo * 18, ha hm0 b hv, fun i hi => ?_⟩
    have := hF (lo + i) (by omega)
    refine FigC.of_row hr (by omega) ?_
    rw [show lo * 18 + i * 18 = (lo + i) * 18 by omega]
    exact this

theorem FigsIn.below {w w' : World} {v : Value} {m : Nat} {C : Nat → Nat → Int} {R : Nat → Bool} (h : FigsIn w v m C R) (hb : Below w.heap.size w w') : FigsIn w' v m C R := by
  obtain ⟨ao, c, rfl, hm, hc⟩ := h
  refine ⟨ao, c, rfl, hm, fun h0 => ?_⟩
  obtain ⟨b, off, rfl, hf⟩ := hc h0
  exact ⟨b, off, rfl, fun i hi => (hf i hi).below hb⟩

theorem FigsOut.below {w w' : World} {v : Value} {m : Nat} {C : Nat → Nat → Int} {R : Nat → Bool} (h : FigsOut w v m C R) (hb : Below w.heap.size w w') : FigsOut w' v m C R := by
  rcases h with h | ⟨b, f, rfl, hr, hF⟩
  · exact Or.inl h
  · exact Or.inr ⟨b, f, rfl, hr.of_block (hb.block _ hr.lt), hF⟩

/-- what is known of a block of the call's own behind a callee -/
theorem block_below {w w' : World} {b : Nat} {o : Obj} (h : w.heap[b]? = some o) (hb : Below w.heap.size w w') : w'.heap[b]? = some o := by
  obtain ⟨hlt, _⟩ := Array.getElem?_eq_some_iff.1 h
  rw [hb.block b hlt]; exact h

theorem block_lt {w : World} {b : Nat} {o : Obj} (h : w.heap[b]? = some o) : b < w.heap.size := (Array.getElem?_eq_some_iff.1 h).1


/-- 'fs[m:]' of what zzToFigures gave -/
theorem FigsOut.tail {w : World} {fa : Option Addr} {n : Nat} {C : Nat → Nat → Int} {R : Nat → Bool} (h : FigsOut w (.slice fa n n) n C R) (hn : n ≤ 1000000000000) (m : Nat) (hm : m ≤ n) :
    ∃ a1, (∀ w', (Instr.slice 24 (.slice fa n n) (some (.int .i64 (m : Int))) none none).run Try.prog w' = .ok (.slice a1 (n - m) (n - m)) w') ∧ FigsIn w (.slice a1 (n - m) (n - m)) (n - m) (fun i => C (m + i)) (fun i => R (m + i)) := by
  refine ⟨if n = m then fa else fa.map (·.add (m * 18)), fun w' => ?_, h.part hn m (n - m) (by omega) _ _ (fun h0 b e => ?_)⟩
  · obtain ⟨i0, hi, hz0, hz1, hz2⟩ := info_parts Try.info30
    have h1 : (0 : Int) ≤ m ∧ (m : Int) ≤ n := by omega
    simp [Instr.slice, run_underlying Try.underlying24, Instr.sliceBounds, run_sliceBound, sizeOf, typeInfo, hi, hz1, h1.2]
  · rw [if_neg (by omega), e]
    simp [add_off]

/-- what Sum gives of m figures from 'lo' on -/
def Fs (C : Nat → Nat → Int) (R : Nat → Bool) (lo m : Nat) : Array Value := fcells (fun j => sumTo (fun i => C (lo + i) j) m) (anyTo (fun i => R (lo + i)) m) (.slice none 0 0) (.slice none 0 0) (.slice none 0 0)

theorem sum_part (w : World) (v : Value) (lo m : Nat) (C : Nat → Nat → Int) (R : Nat → Bool) (h : FigsIn w v m (fun i => C (lo + i)) (fun i => R (lo + i))) :
    Calls Try.prog 8 #[v] w fun e w' => e = .returned (.agg (Fs C R lo m)) ∧ Below w.heap.size w w' := sum_any w v m _ _ h

/-- the thirty-six cells that 'make([]labels.Figures, 2)' lays -/
def pair0 : Array Value := madeCells (fcells (fun _ => 0) false (.slice none 0 0) (.slice none 0 0) (.slice none 0 0)) 36

theorem mk_pair (w : World) : (Instr.makeSlice 24 (.int .i64 2) (.int .i64 2)).run Try.prog w = .ok (.slice (some ⟨w.heap.size, 0, none⟩) 2 2) (w.alloc (.cells pair0 30)) :=
  run_make_rows 24 30 _ 18 192 Try.underlying24 Try.info30 .i64 .i64 2 (by omega) (by omega) w

theorem Fs_size (C : Nat → Nat → Int) (R : Nat → Bool) (lo m : Nat) : (Fs C R lo m).size = 18 := rfl

theorem loads_Fs {w : World} {b : Nat} {C : Nat → Nat → Int} {R : Nat → Bool} {lo m : Nat} (h : w.heap[b]? = some (.cells (Fs C R lo m) 30 (0, 0))) : LoadsAt Try.prog w 30 ⟨b, 0, none⟩ (Fs C R lo m).toList :=
  LoadsAt.of_block h (by kernel_rfl) (by kernel_rfl)

theorem stores_row {w : World} {b m o : Nat} {f : Nat → Value} (h : w.rowIs b 30 m f) (ho : o + 18 ≤ m) (C : Nat → Nat → Int) (R : Nat → Bool) (lo k : Nat) : StoresAt Try.prog w 30 b o (Fs C R lo k).size :=
  ⟨fun j hj => by have hj' : j < 18 := hj; rw [h.cell (show o + j < m by omega)]; rfl, fun j _ => h.frozen _, by kernel_rfl⟩

/-- the two sums laid into the pair -/
theorem pair_in {w : World} {P : Nat} {f : Nat → Value} (h : w.rowIs P 30 36 f) (C : Nat → Nat → Int) (R : Nat → Bool) (lo m lo' m' : Nat) :
    FigsIn ((w.setCells P 0 (Fs C R lo m).toList).setCells P 18 (Fs C R lo' m').toList) (.slice (some ⟨P, 0, none⟩) 2 2) 2
      (fun i j => if i = 0 then sumTo (fun i => C (lo + i) j) m else sumTo (fun i => C (lo' + i) j) m') (fun i => if i = 0 then anyTo (fun i => R (lo + i)) m else anyTo (fun i => R (lo' + i)) m') := by
  have hr := rowIs_setCells (Fs C R lo' m').toList 18 (rowIs_setCells (Fs C R lo m).toList 0 h)
  refine ⟨_, _, rfl, by omega, fun _ => ⟨P, 0, rfl, fun i hi => ?_⟩⟩
  have e1 : (Fs C R lo m).toList.length = 18 := rfl
  have e2 : (Fs C R lo' m').toList.length = 18 := rfl
  rw [e1, e2] at hr
  rcases (show i = 0 ∨ i = 1 by omega) with rfl | rfl
  · refine FigC.of_row hr (by omega) (Fcells.of_fcells _ _ none none none 0 0 0 0 0 0 _ fun j hj => ?_)
    show (if 18 ≤ 0 + 0 * 18 + j ∧ 0 + 0 * 18 + j < 18 + 18 then _ else if 0 ≤ 0 + 0 * 18 + j ∧ 0 + 0 * 18 + j < 0 + 18 then _ else _) = _
    rw [if_neg (by omega), if_pos (by omega)]
    rw [show 0 + 0 * 18 + j - 0 = j by omega]
    rfl
  · refine FigC.of_row hr (by omega) (Fcells.of_fcells _ _ none none none 0 0 0 0 0 0 _ fun j hj => ?_)
    show (if 18 ≤ 0 + 1 * 18 + j ∧ 0 + 1 * 18 + j < 18 + 18 then _ else _) = _
    rw [if_pos (by omega)]
    rw [show 0 + 1 * 18 + j - 18 = j by omega]
    rfl

theorem row_pair0 (w : World) : (w.alloc (.cells pair0 30)).rowIs w.heap.size 30 36 (fun i => (fcells (fun _ => 0) false (.slice none 0 0) (.slice none 0 0) (.slice none 0 0))[i % 18]!) := rowIs_made_any w _ 36 30

/-- the law: the pair's sum is the whole's -/
theorem pair_sum (C : Nat → Nat → Int) (R : Nat → Bool) (n m : Nat) (hm : m ≤ n) :
    Fs (fun i j => if i = 0 then sumTo (fun i => C (0 + i) j) m else sumTo (fun i => C (m + i) j) (n - m)) (fun i => if i = 0 then anyTo (fun i => R (0 + i)) m else anyTo (fun i => R (m + i)) (n - m)) 0 2 = Fs C R 0 n := by
  unfold Fs
  have e1 : (fun j => sumTo (fun i => (fun i j => if i = 0 then sumTo (fun i => C (0 + i) j) m else sumTo (fun i => C (m + i) j) (n - m)) (0 + i) j) 2) = fun j => sumTo (fun i => C (0 + i) j) n := by
    funext j
    have hs := sumTo_split (fun i => C (0 + i) j) m (n - m)
    rw [show m + (n - m) = n by omega] at hs
    rw [hs, sumTo_two]
    simp only [Nat.zero_add, if_true, Nat.one_ne_zero, if_false, Int.zero_add]
    rw [wrap64_of_range (sumTo_range _ _)]
  have e2 : anyTo (fun i => (fun i => if i = 0 then anyTo (fun i => R (0 + i)) m else anyTo (fun i => R (m + i)) (n - m)) (0 + i)) 2 = anyTo (fun i => R (0 + i)) n := by
    have hs := anyTo_split (fun i => R (0 + i)) m (n - m)
    rw [show m + (n - m) = n by omega] at hs
    rw [hs]
    simp [anyTo]
  rw [e1, e2]

theorem again_any {w : World} {P : Nat} {f : Nat → Value} (h : w.rowIs P 30 36 f) (C : Nat → Nat → Int) (R : Nat → Bool) (n m : Nat) (hm : m ≤ n) :
    Calls Try.prog 8 #[.slice (some ⟨P, 0, none⟩) 2 2] ((w.setCells P 0 (Fs C R 0 m).toList).setCells P 18 (Fs C R m (n - m)).toList) fun e w' =>
      e = .returned (.agg (Fs C R 0 n)) ∧ Below ((w.setCells P 0 (Fs C R 0 m).toList).setCells P 18 (Fs C R m (n - m)).toList).heap.size ((w.setCells P 0 (Fs C R 0 m).toList).setCells P 18 (Fs C R m (n - m)).toList) w' := by
  refine (sum_any _ _ 2 _ _ (pair_in h C R 0 m m (n - m))).mono ?_
  rintro e w' ⟨rfl, hb⟩
  refine ⟨?_, hb⟩
  rw [← pair_sum C R n m hm]
  unfold Fs
  simp only [Nat.zero_add]

theorem range_below {w w' : World} {b o : Nat} {cs : List Value} (h : w.rangeAt b o cs) (hb : Below w.heap.size w w') : w'.rangeAt b o cs := fun j v hv => by
  have := h j v hv
  rw [hb.cell (p := ⟨b, o + j, none⟩) (World.block_lt_of_cell? _ _ this)]
  exact this

theorem range_Fs {w : World} {b : Nat} {c : List Value} (h : w.heap[b]? = some (.cells c.toArray 30 (0, 0))) : w.rangeAt b 0 c := fun j v hv => by
  rw [Nat.zero_add, cell_of_row _ _ _ _ _ _ h]
  simpa using hv

theorem two_step {w0 wx w' : World} {B b6 b10 o6 o10 : Nat} {cs cs' : List Value} (h : wx.rangeAt b6 o6 cs ∧ wx.rangeAt b10 o10 cs' ∧ Below B w0 wx) (hB : B ≤ w0.heap.size) (hb : Below wx.heap.size wx w') :
    w'.rangeAt b6 o6 cs ∧ w'.rangeAt b10 o10 cs' ∧ Below B w0 w' :=
  ⟨range_below h.1 hb, range_below h.2.1 hb, h.2.2.trans (hb.mono (Nat.le_trans hB h.2.2.size))⟩

theorem countsOf_cs (w : World) (cs : List Value) (ca : Array Value) (N : Nat → Int) (r : Bool) (a1 a2 a3 : Option Addr) (n1 n2 n3 q1 q2 q3 : Nat) (h : Hid (cs.toArray = fcells N r (.slice a1 n1 q1) (.slice a2 n2 q2) (.slice a3 n3 q3))) (hca : Hid (ca = ccells N r)) :
    Calls Try.prog 10 #[.agg cs.toArray] w fun e w' => e = .returned (.agg ca) ∧ Below w.heap.size w w' := by
  rw [h.out, hca.out]
  exact countsOfF_any w _ _ a1 a2 a3 n1 n2 n3 q1 q2 q3

theorem countsOfZ_cs (w : World) (cs : List Value) (ca : Array Value) (N : Nat → Int) (r : Bool) (a1 a2 a3 : Option Addr) (n1 n2 n3 q1 q2 q3 : Nat) (h : Hid (cs.toArray = fcells N r (.slice a1 n1 q1) (.slice a2 n2 q2) (.slice a3 n3 q3))) (hca : Hid (ca = ccells N r)) :
    Calls Try.prog 13 #[.agg cs.toArray] w fun e w' => e = .returned (.agg ca) ∧ Below w.heap.size w w' := by
  rw [h.out, hca.out]
  exact countsOfZ_any w _ _ a1 a2 a3 n1 n2 n3 q1 q2 q3

theorem namesNoStep_cs (w : World) (cs : List Value) (N : Nat → Int) (r : Bool) (h : Hid (cs.toArray = fcells N r (.slice none 0 0) (.slice none 0 0) (.slice none 0 0))) :
    Calls Try.prog 11 #[.agg cs.toArray] w fun e w' => e = .returned (.bool true) ∧ Below w.heap.size w w' := by
  rw [h.out]
  exact namesNoStep_any w N r

theorem neq_ca {ca : Array Value} {N : Nat → Int} {r : Bool} (h : Hid (ca = ccells N r)) (w : World) : (binOp .neq 34 (.agg ca) (.agg ca)).run Try.prog w = .ok (.bool false) w := by
  rw [h.out]; exact neq_counts w N r

theorem eql_ca {ca : Array Value} {N : Nat → Int} {r : Bool} (h : Hid (ca = ccells N r)) (w : World) : (binOp .eql 34 (.agg ca) (.agg ca)).run Try.prog w = .ok (.bool true) w := by
  rw [h.out]; exact eql_counts w N r

theorem Try.size30 : (Try.prog.info? 30).map (·.size) = some 18 := by kernel_rfl

theorem Try.size42 : (Try.prog.info? 42).map (·.size) = some 18 := by kernel_rfl

theorem len_cs {cs : List Value} {N : Nat → Int} {r : Bool} {x y z : Value} (h : Hid (cs.toArray = fcells N r x y z)) : cs.length = 18 := by
  have := congrArg Array.size h.out
  simpa [fcells] using this

theorem size_cs {cs : List Value} {N : Nat → Int} {r : Bool} {x y z : Value} (h : Hid (cs.toArray = fcells N r x y z)) : (Try.prog.info? 30).map (·.size) = some cs.length := by
  rw [Try.size30, len_cs h]

theorem size_cs42 {cs : List Value} {N : Nat → Int} {r : Bool} {x y z : Value} (h : Hid (cs.toArray = fcells N r x y z)) : (Try.prog.info? 42).map (·.size) = some cs.length := by
  rw [Try.size42, len_cs h]

/-- the load under a guard that lets it by -/
theorem LoadsAt.useG {P : Program} {ops : Array Oper} {rest : List Oper} {dst : Option Tmp} {type : TypeId} {pos : String} {after : Array Edge} {g : Option (Nat × Bool)} {a : Act} {w : World} {Q : Exit → Act → World → Prop} {ty : TypeId} {x : Operand}
    {ad : Addr} {cs : List Value} (hL : LoadsAt P w ty ad cs) (hw : Region.wanted { dst := dst, op := .load ty x, type := type, pos := pos, after := after, guard := g } (yielded ops a.tmps) = true) (hx : a.eval x = .pointer (some ad))
    (h : wpList P ops Q rest (a.put dst (.agg cs.toArray)) w) : wpList P ops Q ({ dst := dst, op := .load ty x, type := type, pos := pos, after := after, guard := g } :: rest) a w := by
  have hd := hL.hd
  refine wpList_step fun K hK => ?_
  rw [if_pos hw]
  unfold Oper.wp execOp
  cases hu : P.underlying ty with
  | none => simp [hu] at hd
  | some d =>
    simp only [hx, Instr.loadAt, Instr.sureAddr, Sem.run_bind, Sem.run_pure, Result.andThen_ok, run_loadVar_agg w ad ty cs d hL.hc hu (by rw [hu] at hd; cases d <;> simp_all) hL.hi]
    exact hK _ _ h

theorem loads_range {w : World} {b : Nat} {ty : TypeId} {cs : List Value} (h : w.rangeAt b 0 cs) (hd : (match Try.prog.underlying ty with | some (.struct _) | some (.array _ _) => true | _ => false) = true) (hi : (Try.prog.info? ty).map (·.size) = some cs.length) : LoadsAt Try.prog w ty ⟨b, 0, none⟩ cs :=
  ⟨fun j v hj => by rw [add_off]; exact h j v hj, hd, hi⟩

theorem ccells_congr {N N' : Nat → Int} (r : Bool) (h : ∀ j, j < 14 → N j = N' j) : ccells N r = ccells N' r := by
  unfold ccells
  rw [h 0 (by omega), h 1 (by omega), h 2 (by omega), h 3 (by omega), h 4 (by omega), h 5 (by omega), h 6 (by omega), h 7 (by omega), h 8 (by omega), h 9 (by omega), h 10 (by omega), h 11 (by omega), h 12 (by omega), h 13 (by omega)]

/-- one figure summed: its own counts -/
theorem one_counts (C : Nat → Nat → Int) (R : Nat → Bool) (hC : ∀ j, j < 14 → -9223372036854775808 ≤ C 0 j ∧ C 0 j ≤ 9223372036854775807) :
    ccells (fun j => sumTo (fun i => C (0 + i) j) 1) (anyTo (fun i => R (0 + i)) 1) = ccells (C 0) (R 0) := by
  have hr : anyTo (fun i => R (0 + i)) 1 = R 0 := by simp [anyTo]
  rw [hr]
  refine ccells_congr _ fun j hj => ?_
  show wrap64 (0 + C 0 j) = C 0 j
  rw [Int.zero_add, wrap64_of_range (hC j hj)]

/-- a ZFig of the input, as a range -/
theorem Fig.range {W w : World} {b off : Nat} {N : Nat → Int} {r : Bool} (h : Fig W b off N r) (hb : Below W.heap.size W w) :
    ∃ (cs : List Value) (a1 a2 a3 : Option Addr) (n1 n2 n3 q1 q2 q3 : Nat), Hid (cs.toArray = fcells N r (.slice a1 n1 q1) (.slice a2 n2 q2) (.slice a3 n3 q3)) ∧ w.rangeAt b off cs := by
  obtain ⟨hlt0, c0, c1, c2, c3, c4, c5, c6, c7, c8, c9, c10, c11, c12, c13, c14, ⟨v15, c15, l15⟩, ⟨v16, c16, l16⟩, ⟨v17, c17, l17⟩⟩ := h
  rw [← hb.cell (p := ⟨b, _, none⟩) hlt0] at c0 c1 c2 c3 c4 c5 c6 c7 c8 c9 c10 c11 c12 c13 c14 c15 c16 c17
  obtain ⟨a15, n15, p15, rfl, _⟩ := l15
  obtain ⟨a16, n16, p16, rfl, _⟩ := l16
  obtain ⟨a17, n17, p17, rfl, _⟩ := l17
  refine ⟨(fcells N r (.slice a15 n15 p15) (.slice a16 n16 p16) (.slice a17 n17 p17)).toList, a15, a16, a17, n15, n16, n17, p15, p16, p17, rfl, fun j v hj => ?_⟩
  have := cells18 c0 c1 c2 c3 c4 c5 c6 c7 c8 c9 c10 c11 c12 c13 c14 c15 c16 c17 j v hj
  rwa [add_off] at this
end Go.Proofs.Qxb6630305a
