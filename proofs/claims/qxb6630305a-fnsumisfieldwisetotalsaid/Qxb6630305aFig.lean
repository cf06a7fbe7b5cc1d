import Derived.Test.Qxb6630305aLab
import Derived.Test.Qxb6630305aLaws
namespace Go.Proofs.Qxb6630305a
open Go.RowKit

/-- One ZFig in memory: its fourteen counts, its flag, three slices that can be read. -/
structure Fig (W : World) (b off : Nat) (N : Nat → Int) (r : Bool) : Prop where
  lt : b < W.heap.size
  c0 : W.cell? ⟨b, off, none⟩ = some (.int .i64 (N 0))
  c1 : W.cell? ⟨b, off + 1, none⟩ = some (.int .i64 (N 1))
  c2 : W.cell? ⟨b, off + 2, none⟩ = some (.int .i64 (N 2))
  c3 : W.cell? ⟨b, off + 3, none⟩ = some (.int .i64 (N 3))
  c4 : W.cell? ⟨b, off + 4, none⟩ = some (.int .i64 (N 4))
  c5 : W.cell? ⟨b, off + 5, none⟩ = some (.int .i64 (N 5))
  c6 : W.cell? ⟨b, off + 6, none⟩ = some (.int .i64 (N 6))
  c7 : W.cell? ⟨b, off + 7, none⟩ = some (.int .i64 (N 7))
  c8 : W.cell? ⟨b, off + 8, none⟩ = some (.int .i64 (N 8))
  c9 : W.cell? ⟨b, off + 9, none⟩ = some (.int .i64 (N 9))
  c10 : W.cell? ⟨b, off + 10, none⟩ = some (.int .i64 (N 10))
  c11 : W.cell? ⟨b, off + 11, none⟩ = some (.int .i64 (N 11))
  c12 : W.cell? ⟨b, off + 12, none⟩ = some (.int .i64 (N 12))
  c13 : W.cell? ⟨b, off + 13, none⟩ = some (.int .i64 (N 13))
  c14 : W.cell? ⟨b, off + 14, none⟩ = some (.bool r)
  c15 : ∃ v, W.cell? ⟨b, off + 15, none⟩ = some v ∧ Labs W v
  c16 : ∃ v, W.cell? ⟨b, off + 16, none⟩ = some v ∧ IDs W v
  c17 : ∃ v, W.cell? ⟨b, off + 17, none⟩ = some v ∧ Runs W v

def Figs (W : World) (v : Value) (n : Nat) (C : Nat → Nat → Int) (R : Nat → Bool) : Prop :=
  ∃ (ao : Option Addr) (c : Nat), v = .slice ao n c ∧ 192 * n ≤ 140737488351232 ∧
    (0 < n → ∃ b off, ao = some ⟨b, off, none⟩ ∧ ∀ i, i < n → Fig W b (off + i * 18) (C i) (R i))

/-- eighteen cells that hold a Figures: the counts N, the flag r, three slices of whatever content -/
def Fcells (g : Nat → Value) (N : Nat → Int) (r : Bool) : Prop :=
  (∀ j, j < 14 → g j = .int .i64 (N j)) ∧ g 14 = .bool r ∧ (∃ a n c, g 15 = .slice a n c) ∧ (∃ a n c, g 16 = .slice a n c) ∧ (∃ a n c, g 17 = .slice a n c)

theorem Fcells.mk18 (N : Nat → Int) (r : Bool) (v15 v16 v17 : Value) (h15 : ∃ a n c, v15 = .slice a n c) (h16 : ∃ a n c, v16 = .slice a n c) (h17 : ∃ a n c, v17 = .slice a n c) (g : Nat → Value)
    (hg : ∀ j, j < 18 → g j = ([.int .i64 (N 0), .int .i64 (N 1), .int .i64 (N 2), .int .i64 (N 3), .int .i64 (N 4), .int .i64 (N 5), .int .i64 (N 6), .int .i64 (N 7), .int .i64 (N 8), .int .i64 (N 9), .int .i64 (N 10), .int .i64 (N 11), .int .i64 (N 12), .int .i64 (N 13), .bool r, v15, v16, v17] : List Value).getD j undef) : Fcells g N r := by
  refine ⟨fun j hj => ?_, hg 14 (by omega), ?_, ?_, ?_⟩
  · rw [hg j (by omega)]
    match j, hj with
    | 0, _ => rfl
    | 1, _ => rfl
    | 2, _ => rfl
    | 3, _ => rfl
    | 4, _ => rfl
    | 5, _ => rfl
    | 6, _ => rfl
    | 7, _ => rfl
    | 8, _ => rfl
    | 9, _ => rfl
    | 10, _ => rfl
    | 11, _ => rfl
    | 12, _ => rfl
    | 13, _ => rfl
  · rw [hg 15 (by omega)]; exact h15
  · rw [hg 16 (by omega)]; exact h16
  · rw [hg 17 (by omega)]; exact h17


theorem add_off (b o j : Nat) : (⟨b, o, none⟩ : Addr).add j = ⟨b, o + j, none⟩ := by unfold Addr.add; split <;> simp_all

theorem cells18 {w : World} {b o : Nat} {v0 v1 v2 v3 v4 v5 v6 v7 v8 v9 v10 v11 v12 v13 v14 v15 v16 v17 : Value}
    (h0 : w.cell? ⟨b, o, none⟩ = some v0) (h1 : w.cell? ⟨b, o + 1, none⟩ = some v1) (h2 : w.cell? ⟨b, o + 2, none⟩ = some v2) (h3 : w.cell? ⟨b, o + 3, none⟩ = some v3) (h4 : w.cell? ⟨b, o + 4, none⟩ = some v4) (h5 : w.cell? ⟨b, o + 5, none⟩ = some v5) (h6 : w.cell? ⟨b, o + 6, none⟩ = some v6) (h7 : w.cell? ⟨b, o + 7, none⟩ = some v7) (h8 : w.cell? ⟨b, o + 8, none⟩ = some v8) (h9 : w.cell? ⟨b, o + 9, none⟩ = some v9) (h10 : w.cell? ⟨b, o + 10, none⟩ = some v10) (h11 : w.cell? ⟨b, o + 11, none⟩ = some v11) (h12 : w.cell? ⟨b, o + 12, none⟩ = some v12) (h13 : w.cell? ⟨b, o + 13, none⟩ = some v13) (h14 : w.cell? ⟨b, o + 14, none⟩ = some v14) (h15 : w.cell? ⟨b, o + 15, none⟩ = some v15) (h16 : w.cell? ⟨b, o + 16, none⟩ = some v16) (h17 : w.cell? ⟨b, o + 17, none⟩ = some v17) :
    ∀ j v, ([v0, v1, v2, v3, v4, v5, v6, v7, v8, v9, v10, v11, v12, v13, v14, v15, v16, v17] : List Value)[j]? = some v → w.cell? ((⟨b, o, none⟩ : Addr).add j) = some v := by
  intro j v hj
  rw [add_off]
  match j, hj with
  | 0, hj => rw [← hj]; exact h0
  | 1, hj => rw [← hj]; exact h1
  | 2, hj => rw [← hj]; exact h2
  | 3, hj => rw [← hj]; exact h3
  | 4, hj => rw [← hj]; exact h4
  | 5, hj => rw [← hj]; exact h5
  | 6, hj => rw [← hj]; exact h6
  | 7, hj => rw [← hj]; exact h7
  | 8, hj => rw [← hj]; exact h8
  | 9, hj => rw [← hj]; exact h9
  | 10, hj => rw [← hj]; exact h10
  | 11, hj => rw [← hj]; exact h11
  | 12, hj => rw [← hj]; exact h12
  | 13, hj => rw [← hj]; exact h13
  | 14, hj => rw [← hj]; exact h14
  | 15, hj => rw [← hj]; exact h15
  | 16, hj => rw [← hj]; exact h16
  | 17, hj => rw [← hj]; exact h17
  | j + 18, hj => simp at hj

theorem bcell {W w1 : World} (hb : Below W.heap.size W w1) : (∀ b o, b < W.heap.size → w1.cell? ⟨b, o, none⟩ = W.cell? ⟨b, o, none⟩) ∧ (∀ b o, b < W.heap.size → w1.frozen? ⟨b, o, none⟩ = W.frozen? ⟨b, o, none⟩) :=
  ⟨fun b o h => hb.cell (p := ⟨b, o, none⟩) h, fun b o h => hb.frozen (p := ⟨b, o, none⟩) h⟩

theorem Try.info30 : (Try.prog.info? 30).map (fun i => (i.zero, i.size, i.bytes)) = some (some (.agg #[.int .i64 0, .int .i64 0, .int .i64 0, .int .i64 0, .int .i64 0, .int .i64 0, .int .i64 0, .int .i64 0, .int .i64 0, .int .i64 0, .int .i64 0, .int .i64 0, .int .i64 0, .int .i64 0, .bool false, .slice none 0 0, .slice none 0 0, .slice none 0 0]), 18, 192) := by kernel_rfl


/-- the eighteen cells of a Figures or ZFig -/
def fcells (N : Nat → Int) (r : Bool) (x y z : Value) : Array Value := #[.int .i64 (N 0), .int .i64 (N 1), .int .i64 (N 2), .int .i64 (N 3), .int .i64 (N 4), .int .i64 (N 5), .int .i64 (N 6), .int .i64 (N 7), .int .i64 (N 8), .int .i64 (N 9), .int .i64 (N 10), .int .i64 (N 11), .int .i64 (N 12), .int .i64 (N 13), .bool r, x, y, z]

/-- the middle of a round of zzToFigures: block M holds the ZFig, block M + 1 the Figures -/
structure Mid (W w : World) (M m : Nat) (f : Nat → Value) (F G : Array Value) (wx : World) : Prop where
  bW : Below W.heap.size W wx
  bw : Below w.heap.size w wx
  row : wx.rowIs w.heap.size 30 m f
  hF : wx.heap[M]? = some (.cells F 42 (0, 0))
  hG : wx.heap[M + 1]? = some (.cells G 30 (0, 0))
  lt : w.heap.size < M
  size : M + 1 < wx.heap.size

theorem Mid.start {W w wr : World} {m : Nat} {f : Nat → Value} {F G : Array Value} (hb : Below W.heap.size W w) (hbw : Below w.heap.size w wr) (hf : wr.rowIs w.heap.size 30 m f) :
    Mid W w wr.heap.size m f F G ((wr.alloc (.cells F 42)).alloc (.cells G 30)) := by
  have hl := hf.lt
  have h1 : Below w.heap.size w ((wr.alloc (.cells F 42)).alloc (.cells G 30)) := (hbw.alloc (by omega) _).alloc (by simp; omega) _
  exact ⟨hb.trans (h1.mono hb.size), h1, (hf.alloc _).alloc _, heap_alloc2_old _ _ _, heap_alloc2_new _ _ _, hl, by simp⟩

theorem Mid.call {W w wx wy : World} {M m : Nat} {f : Nat → Value} {F G : Array Value} (h : Mid W w M m f F G wx) (hb : Below wx.heap.size wx wy) : Mid W w M m f F G wy := by
  have h1 := h.lt
  have h2 := h.size
  have h3 := hb.size
  have h4 := h.bW.size
  exact ⟨h.bW.trans (hb.mono h4), h.bw.trans (hb.mono h.bw.size), h.row.of_block (hb.block _ h.row.lt), (hb.block _ (by omega)).trans h.hF, (hb.block _ (by omega)).trans h.hG, h1, by omega⟩

theorem Mid.set {W w wx : World} {M m : Nat} {f : Nat → Value} {F G : Array Value} (h : Mid W w M m f F G wx) (hW : W.heap.size ≤ w.heap.size) (j : Nat) (v : Value) : Mid W w M m f F (G.setIfInBounds j v) (wx.setCell ⟨M + 1, j, none⟩ v) := by
  have h1 := h.lt
  have h2 := h.size
  refine ⟨h.bW.setCell (by show _ ≤ M + 1; omega) v, h.bw.setCell (by show _ ≤ M + 1; omega) v, h.row.setOther (by show w.heap.size ≠ M + 1; omega) v, ?_, heap_setCell_same _ _ _ _ _ _ h.hG, h1, by simp [World.setCell]; omega⟩
  rw [heap_setCell_other _ _ _ _ (by show M ≠ M + 1; omega)]
  exact h.hF

theorem Mid.cellF {W w wx : World} {M m : Nat} {f : Nat → Value} {F G : Array Value} (h : Mid W w M m f F G wx) (j : Nat) : wx.cell? ⟨M, j, none⟩ = F[j]? := cell_of_row _ _ _ _ _ _ h.hF
theorem Mid.cellG {W w wx : World} {M m : Nat} {f : Nat → Value} {F G : Array Value} (h : Mid W w M m f F G wx) (j : Nat) : wx.cell? ⟨M + 1, j, none⟩ = G[j]? := cell_of_row _ _ _ _ _ _ h.hG
theorem Mid.frozenG {W w wx : World} {M m : Nat} {f : Nat → Value} {F G : Array Value} (h : Mid W w M m f F G wx) (j : Nat) : wx.frozen? ⟨M + 1, j, none⟩ = false := frozen_of_row _ _ _ _ _ h.hG

theorem Fcells.of_fcells (N : Nat → Int) (r : Bool) (a1 a2 a3 : Option Addr) (n1 n2 n3 q1 q2 q3 : Nat) (g : Nat → Value)
    (hg : ∀ j, j < 18 → g j = (fcells N r (.slice a1 n1 q1) (.slice a2 n2 q2) (.slice a3 n3 q3)).toList.getD j undef) : Fcells g N r :=
  Fcells.mk18 N r _ _ _ ⟨_, _, _, rfl⟩ ⟨_, _, _, rfl⟩ ⟨_, _, _, rfl⟩ g hg

/-- the round's end -/
theorem fig_round {W w wx : World} {M n k : Nat} {f : Nat → Value} {F : Array Value} {C : Nat → Nat → Int} {R : Nat → Bool} {a1 a2 a3 : Option Addr} {n1 n2 n3 q1 q2 q3 : Nat}
    (h : Mid W w M (n * 18) f F (fcells (C k) (R k) (.slice a1 n1 q1) (.slice a2 n2 q2) (.slice a3 n3 q3)) wx) (hF : ∀ i, i < k → Fcells (fun j => f (i * 18 + j)) (C i) (R i)) :
    (∃ f', (wx.setCells w.heap.size (k * 18) (fcells (C k) (R k) (.slice a1 n1 q1) (.slice a2 n2 q2) (.slice a3 n3 q3)).toList).rowIs w.heap.size 30 (n * 18) f' ∧ ∀ i, i < k + 1 → Fcells (fun j => f' (i * 18 + j)) (C i) (R i)) ∧
      Below w.heap.size w (wx.setCells w.heap.size (k * 18) (fcells (C k) (R k) (.slice a1 n1 q1) (.slice a2 n2 q2) (.slice a3 n3 q3)).toList) := by
  refine ⟨⟨_, rowIs_setCells _ _ h.row, fun i hi => ?_⟩, below_setCells _ (Nat.le_refl _) _ _ h.bw⟩
  have hlen : (fcells (C k) (R k) (.slice a1 n1 q1) (.slice a2 n2 q2) (.slice a3 n3 q3)).toList.length = 18 := rfl
  rw [hlen]
  by_cases hik : i = k
  · subst hik
    refine Fcells.of_fcells _ _ a1 a2 a3 n1 n2 n3 q1 q2 q3 _ fun j hj => ?_
    show (if i * 18 ≤ i * 18 + j ∧ i * 18 + j < i * 18 + 18 then _ else _) = _
    rw [if_pos (by omega), Nat.add_sub_cancel_left]
  · have hx : i < k := by omega
    have := hF i hx
    obtain ⟨x1, x2, x3, x4, x5⟩ := this
    have e : ∀ j, j < 18 → (if k * 18 ≤ i * 18 + j ∧ i * 18 + j < k * 18 + 18 then (fcells (C k) (R k) (.slice a1 n1 q1) (.slice a2 n2 q2) (.slice a3 n3 q3)).toList.getD (i * 18 + j - k * 18) undef else f (i * 18 + j)) = f (i * 18 + j) := fun j hj => by
      rw [if_neg (by omega)]
    refine ⟨fun j hj => ?_, ?_, ?_, ?_, ?_⟩
    · exact (e j (by omega)).trans (x1 j hj)
    · exact (e 14 (by omega)).trans x2
    · obtain ⟨a, m, c, hx⟩ := x3; exact ⟨a, m, c, (e 15 (by omega)).trans hx⟩
    · obtain ⟨a, m, c, hx⟩ := x4; exact ⟨a, m, c, (e 16 (by omega)).trans hx⟩
    · obtain ⟨a, m, c, hx⟩ := x5; exact ⟨a, m, c, (e 17 (by omega)).trans hx⟩

end Go.Proofs.Qxb6630305a
