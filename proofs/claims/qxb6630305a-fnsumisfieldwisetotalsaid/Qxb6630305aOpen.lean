import Derived.Test.Qxb6630305aFig
import Derived.ProofKit
import Derived.OpenShut
import Derived.SizedLaws
import Derived.Deep.Slices
namespace Go.Proofs.Qxb6630305a
open Go.RowKit Go.Deep

theorem addr_of_cell {w : World} {a : Addr} {v : Value} (h : w.cell? a = some v) : a = ⟨a.block, a.off, none⟩ := by
  have := World.cell?_spot h
  cases a
  simp_all

theorem Try.cells2 : Try.prog.cellsOf 2 = 1 := by kernel_rfl
theorem Try.cells27 : Try.prog.cellsOf 27 = 1 := by kernel_rfl
theorem Try.cells45 : Try.prog.cellsOf 45 = 6 := by kernel_rfl
theorem Try.cells42 : Try.prog.cellsOf 42 = 18 := by kernel_rfl
theorem Try.bytes2 : Try.prog.bytesOf 2 = 8 := by kernel_rfl
theorem Try.bytes27 : Try.prog.bytesOf 27 = 24 := by kernel_rfl
theorem Try.bytes45 : Try.prog.bytesOf 45 = 72 := by kernel_rfl
theorem Try.bytes42 : Try.prog.bytesOf 42 = 192 := by kernel_rfl

/-- within the reach -/
def Within {H : Type} (t : TypeId) (d : DataW H) : Prop := ∀ n ∈ d.weights Try.prog t, n ≤ 140737488351232

section
variable {H : Type} {enc : TypeId × Value → H} {w : World} {base : Nat} {spare : Nat → Bool} {held : Bool}

theorem mem_weightsAll {P : Program} {e : TypeId} : ∀ {l : List (DataW H)} {d : DataW H}, d ∈ l → ∀ n ∈ d.weights P e, n ∈ DataW.weightsAll P e l
  | x :: l, d, h, n, hn => by
    simp only [DataW.weightsAll, List.mem_append]
    rcases List.mem_cons.1 h with rfl | h
    · exact .inl hn
    · exact .inr (mem_weightsAll h n hn)

theorem Within.slice {t e : TypeId} {elems rest : List (DataW H)} (ht : Try.prog.underlying t = some (.slice e)) (h : Within t (.slice elems rest)) :
    (elems.length + rest.length) * Try.prog.bytesOf e ≤ 140737488351232 ∧ ∀ d ∈ elems, Within e d := by
  unfold Within at h
  simp only [DataW.weights, ht] at h
  refine ⟨h _ (by simp), fun d hd n hn => h n ?_⟩
  simp only [List.mem_cons, List.mem_append]
  exact .inr (.inl (mem_weightsAll hd n hn))

theorem open_IDs {fuel : Nat} {v : Value} {x : DataW H × List MemPlace} (h : DataW.trod enc Try.prog w base spare held fuel 27 [v] = some x) (hx : Within 27 x.1) : IDs w v := by
  rcases open_slice1 Try.underlying27 Try.cells2 h with ⟨hcs, _⟩ | ⟨a, len, cap, m, n, V, D, Pl, hcs, _, hl, hm, hmm, rfl, hV⟩
  · simp only [List.cons.injEq, and_true] at hcs
    subst hcs
    exact ⟨none, 0, 0, rfl, by omega, fun h => absurd h (Nat.lt_irrefl _)⟩
  · simp only [List.cons.injEq, and_true] at hcs
    subst hcs
    have hs := (hx.slice Try.underlying27).1
    simp only [List.length_map, List.length_range, Try.bytes2] at hs
    have hlm : len ≤ m := by rw [hmm]; split <;> omega
    refine ⟨some a, len, cap, rfl, by omega, fun h0 => ?_⟩
    have c0 := (hV 0 (by omega)).1
    have ha := addr_of_cell (a := a) (by simpa [Addr.add] using c0)
    refine ⟨a.block, a.off, by rw [← ha], World.block_lt_of_cell? _ _ c0, fun i hi => ?_⟩
    obtain ⟨c1, t1⟩ := hV i (by omega)
    obtain ⟨z, hz, _, _⟩ := DataW.trod_int Try.underlying2 t1
    simp only [List.cons.injEq, and_true] at hz
    rw [ha, add_off, hz] at c1
    exact ⟨z, c1⟩

theorem open_Runs {fuel : Nat} {v : Value} {x : DataW H × List MemPlace} (h : DataW.trod enc Try.prog w base spare held fuel 28 [v] = some x) (hx : Within 28 x.1) : Runs w v := by
  rcases open_slice1 Try.underlying28 Try.cells27 h with ⟨hcs, _⟩ | ⟨a, len, cap, m, n, V, D, Pl, hcs, _, hl, hm, hmm, rfl, hV⟩
  · simp only [List.cons.injEq, and_true] at hcs
    subst hcs
    exact ⟨none, 0, 0, rfl, by omega, fun h => absurd h (Nat.lt_irrefl _)⟩
  · simp only [List.cons.injEq, and_true] at hcs
    subst hcs
    have hs := hx.slice Try.underlying28
    simp only [List.length_map, List.length_range, Try.bytes27] at hs
    have hlm : len ≤ m := by rw [hmm]; split <;> omega
    refine ⟨some a, len, cap, rfl, by omega, fun h0 => ?_⟩
    have c0 := (hV 0 (by omega)).1
    have ha := addr_of_cell (a := a) (by simpa [Addr.add] using c0)
    refine ⟨a.block, a.off, by rw [← ha], World.block_lt_of_cell? _ _ c0, fun i hi => ?_⟩
    obtain ⟨c1, t1⟩ := hV i (by omega)
    rw [ha, add_off] at c1
    exact ⟨V i, c1, open_IDs t1 (hs.2 _ (List.mem_map.2 ⟨i, by simpa using hi, rfl⟩))⟩

/-- a struct whose fields are one cell each: field by field -/
theorem open_fields {t : TypeId} {fs : Array Field} {fuel : Nat} {cs : List Value} {x : DataW H × List MemPlace} (ht : Try.prog.underlying t = some (.struct fs)) (hone : ∀ (i : Nat) (f : Field), fs[i]? = some f → f.offset = i ∧ Try.prog.cellsOf f.type = 1)
    (h : DataW.trod enc Try.prog w base spare held fuel t cs = some x) (hx : Within t x.1) :
    ∀ (i : Nat) (f : Field), fs[i]? = some f → i < cs.length → ∃ v y n, cs[i]? = some v ∧ DataW.trod enc Try.prog w base spare held n f.type [v] = some y ∧ Within f.type y.1 := by
  obtain ⟨xs, n, _, rfl, hl, hlen, hf⟩ := DataW.trod_struct ht h
  intro i f hi hlt
  have h1 := hf i f hi
  obtain ⟨ho, hc⟩ := hone i f hi
  have hifs : i < fs.size := (Array.getElem?_eq_some_iff.1 hi).1
  rw [ho, hc, List.getElem?_eq_getElem (by omega : i < xs.length)] at h1
  have hd : (cs.drop i).take 1 = [cs[i]] := by
    rw [List.drop_eq_getElem_cons hlt]; rfl
  rw [hd] at h1
  refine ⟨cs[i], xs[i], n, List.getElem?_eq_getElem hlt, h1, fun k hk => hx k ?_⟩
  simp only [DataW.weights, ht]
  refine DataW.weights_mem_each (j := i) (t := f.type) (d := xs[i].1) ?_ ?_ k hk
  · simp only [List.getElem?_map, Array.getElem?_toList, hi, Option.map_some]
  · simp only [List.getElem?_map, List.getElem?_eq_getElem (by omega : i < xs.length), Option.map_some]


/-- a slice of structs, element by element -/
theorem open_structs {t e : TypeId} {size bytes fuel : Nat} {v : Value} {x : DataW H × List MemPlace} (ht : Try.prog.underlying t = some (.slice e)) (hc : Try.prog.cellsOf e = size) (hz : 0 < size) (hby : Try.prog.bytesOf e = bytes)
    (h : DataW.trod enc Try.prog w base spare held fuel t [v] = some x) (hx : Within t x.1) :
    ∃ (ao : Option Addr) (n c : Nat), v = .slice ao n c ∧ bytes * n ≤ 140737488351232 ∧ n ≤ c ∧ (0 < n → ∃ b off, ao = some ⟨b, off, none⟩ ∧ b < w.heap.size ∧
      ∀ i, i < n → ∃ (cs : List Value) (fl : Nat) (y : DataW H × List MemPlace), cs.length = size ∧ (∀ j v, cs[j]? = some v → w.cell? ⟨b, off + i * size + j, none⟩ = some v) ∧ DataW.trod enc Try.prog w base spare held fl e cs = some y ∧ Within e y.1) := by
  rcases open_slice ht h with ⟨hcs, _⟩ | ⟨a, len, cap, m, n, D, Pl, hcs, _, hl, hm, hmm, rfl, hV⟩
  · simp only [List.cons.injEq, and_true] at hcs
    subst hcs
    exact ⟨none, 0, 0, rfl, by omega, by omega, fun h => absurd h (Nat.lt_irrefl _)⟩
  · simp only [List.cons.injEq, and_true] at hcs
    subst hcs
    have hs := hx.slice ht
    simp only [List.length_map, List.length_range, hby] at hs
    have hlm : len ≤ m := by rw [hmm]; split <;> omega
    rw [hc] at hV
    have hsum : len + (m - len) = m := by omega
    rw [hsum] at hs
    refine ⟨some a, len, cap, rfl, ?_, hl, fun h0 => ?_⟩
    · calc bytes * len ≤ bytes * m := Nat.mul_le_mul_left _ hlm
        _ = m * bytes := Nat.mul_comm _ _
        _ ≤ _ := hs.1
    obtain ⟨cs0, h1, _⟩ := hV 0 (by omega)
    obtain ⟨_, hlen0, hcell0⟩ := World.cells?_some h1
    have c0 : w.cell? a = some (cs0[0]'(by omega)) := by
      have := hcell0 0 hz
      rw [List.getElem?_eq_getElem (by omega)] at this
      simpa [Addr.add] using this
    have ha := addr_of_cell c0
    refine ⟨a.block, a.off, by rw [← ha], World.block_lt_of_cell? _ _ c0, fun i hi => ?_⟩
    obtain ⟨cs, h2, t2⟩ := hV i (by omega)
    obtain ⟨_, hlen, hcell⟩ := World.cells?_some h2
    refine ⟨cs, n, _, hlen, fun j v hj => ?_, t2, hs.2 _ (List.mem_map.2 ⟨i, by simpa using hi, rfl⟩)⟩
    have hjl : j < cs.length := (List.getElem?_eq_some_iff.1 hj).1
    have := hcell j (by omega)
    rw [ha, add_off, add_off, hj] at this
    exact this

theorem open_Lab {fuel b off : Nat} {cs : List Value} {x : DataW H × List MemPlace} (hlen : cs.length = 6) (hcell : ∀ j v, cs[j]? = some v → w.cell? ⟨b, off + j, none⟩ = some v)
    (h : DataW.trod enc Try.prog w base spare held fuel 45 cs = some x) (hx : Within 45 x.1) : Lab w b off := by
  have hF := open_fields Try.underlying45 (by
    intro i f hi
    match i, hi with
    | 0, hi => cases hi; exact ⟨rfl, by kernel_rfl⟩
    | 1, hi => cases hi; exact ⟨rfl, by kernel_rfl⟩
    | 2, hi => cases hi; exact ⟨rfl, by kernel_rfl⟩
    | 3, hi => cases hi; exact ⟨rfl, by kernel_rfl⟩
    | 4, hi => cases hi; exact ⟨rfl, by kernel_rfl⟩
    | 5, hi => cases hi; exact ⟨rfl, by kernel_rfl⟩
    | i + 6, hi => simp at hi) h hx
  obtain ⟨v0, y0, n0, g0, t0, _⟩ := hF 0 _ rfl (by omega)
  obtain ⟨v1, y1, n1, g1, t1, _⟩ := hF 1 _ rfl (by omega)
  obtain ⟨v2, y2, n2, g2, t2, _⟩ := hF 2 _ rfl (by omega)
  obtain ⟨v3, y3, n3, g3, t3, _⟩ := hF 3 _ rfl (by omega)
  obtain ⟨v4, y4, n4, g4, t4, _⟩ := hF 4 _ rfl (by omega)
  obtain ⟨v5, y5, n5, g5, t5, _⟩ := hF 5 _ rfl (by omega)
  obtain ⟨x0, e0, _, _⟩ := DataW.trod_int Try.underlying2 t0
  obtain ⟨s1, e1, _, _⟩ := DataW.trod_string Try.underlying9 t1
  obtain ⟨s2, e2, _, _⟩ := DataW.trod_string Try.underlying9 t2
  obtain ⟨s3, e3, _, _⟩ := DataW.trod_string Try.underlying9 t3
  obtain ⟨x4, e4, _, _⟩ := DataW.trod_int Try.underlying2 t4
  simp only [List.cons.injEq, and_true] at e0 e1 e2 e3 e4
  subst e0 e1 e2 e3 e4
  have q0 := hcell 0 _ g0
  rw [Nat.add_zero] at q0
  rcases DataW.trod_pointer Try.underlying43 t5 with ⟨e5, _⟩ | ⟨a, cs', y, n, _, e5, _, hc, hy⟩
  · simp only [List.cons.injEq, and_true] at e5
    subst e5
    exact ⟨x0, x4, s1, s2, s3, none, q0, hcell 1 _ g1, hcell 2 _ g2, hcell 3 _ g3, hcell 4 _ g4, hcell 5 _ g5, fun a h => by cases h⟩
  · simp only [List.cons.injEq, and_true] at e5
    subst e5
    refine ⟨x0, x4, s1, s2, s3, some a, q0, hcell 1 _ g1, hcell 2 _ g2, hcell 3 _ g3, hcell 4 _ g4, hcell 5 _ g5, fun a' h => ?_⟩
    cases h
    rw [Try.cells2] at hc
    obtain ⟨_, hl1, hc1⟩ := World.cells?_some hc
    obtain ⟨z, hz, _, _⟩ := DataW.trod_int Try.underlying2 hy
    subst hz
    have c0 : w.cell? a = some (.int .i64 z) := by simpa [Addr.add] using hc1 0 (by omega)
    have ha := addr_of_cell c0
    exact ⟨a.block, a.off, z, ha, World.block_lt_of_cell? _ _ c0, by rw [← ha]; exact c0⟩

theorem open_Labs {fuel : Nat} {v : Value} {x : DataW H × List MemPlace} (h : DataW.trod enc Try.prog w base spare held fuel 40 [v] = some x) (hx : Within 40 x.1) : Labs w v := by
  obtain ⟨ao, n, c, rfl, hn, _, hc⟩ := open_structs Try.underlying40 Try.cells45 (by omega) Try.bytes45 h hx
  refine ⟨ao, n, c, rfl, hn, fun h0 => ?_⟩
  obtain ⟨b, off, rfl, hb, hi⟩ := hc h0
  refine ⟨b, off, rfl, hb, fun i hlt => ?_⟩
  obtain ⟨cs, fl, y, hlen, hcell, ht, hw⟩ := hi i hlt
  exact open_Lab hlen hcell ht hw

theorem open_Fig {fuel b off : Nat} {cs : List Value} {x : DataW H × List MemPlace} (hlen : cs.length = 18) (hcell : ∀ j v, cs[j]? = some v → w.cell? ⟨b, off + j, none⟩ = some v)
    (h : DataW.trod enc Try.prog w base spare held fuel 42 cs = some x) (hx : Within 42 x.1) :
    ∃ (N : Nat → Int) (r : Bool), Fig w b off N r ∧ ∀ j, j < 14 → -9223372036854775808 ≤ N j ∧ N j ≤ 9223372036854775807 := by
  have hF := open_fields Try.underlying42 (by
    intro i f hi
    match i, hi with
    | 0, hi => cases hi; exact ⟨rfl, by kernel_rfl⟩
    | 1, hi => cases hi; exact ⟨rfl, by kernel_rfl⟩
    | 2, hi => cases hi; exact ⟨rfl, by kernel_rfl⟩
    | 3, hi => cases hi; exact ⟨rfl, by kernel_rfl⟩
    | 4, hi => cases hi; exact ⟨rfl, by kernel_rfl⟩
    | 5, hi => cases hi; exact ⟨rfl, by kernel_rfl⟩
    | 6, hi => cases hi; exact ⟨rfl, by kernel_rfl⟩
    | 7, hi => cases hi; exact ⟨rfl, by kernel_rfl⟩
    | 8, hi => cases hi; exact ⟨rfl, by kernel_rfl⟩
    | 9, hi => cases hi; exact ⟨rfl, by kernel_rfl⟩
    | 10, hi => cases hi; exact ⟨rfl, by kernel_rfl⟩
    | 11, hi => cases hi; exact ⟨rfl, by kernel_rfl⟩
    | 12, hi => cases hi; exact ⟨rfl, by kernel_rfl⟩
    | 13, hi => cases hi; exact ⟨rfl, by kernel_rfl⟩
    | 14, hi => cases hi; exact ⟨rfl, by kernel_rfl⟩
    | 15, hi => cases hi; exact ⟨rfl, by kernel_rfl⟩
    | 16, hi => cases hi; exact ⟨rfl, by kernel_rfl⟩
    | 17, hi => cases hi; exact ⟨rfl, by kernel_rfl⟩
    | i + 18, hi => simp at hi) h hx
  have hint : ∀ i, i < 14 → ∃ z : Int, cs[i]? = some (.int .i64 z) ∧ -9223372036854775808 ≤ z ∧ z ≤ 9223372036854775807 := by
    intro i hi
    have key : ∀ (f : Field), f.type = 3 → (∃ v y n, cs[i]? = some v ∧ DataW.trod enc Try.prog w base spare held n f.type [v] = some y ∧ Within f.type y.1) → ∃ z : Int, cs[i]? = some (.int .i64 z) ∧ -9223372036854775808 ≤ z ∧ z ≤ 9223372036854775807 := by
      rintro f hf ⟨v, y, n, g, t, _⟩
      rw [hf] at t
      obtain ⟨z, e, _, hw⟩ := DataW.trod_int Try.underlying3 t
      simp only [List.cons.injEq, and_true] at e
      subst e
      refine ⟨z, g, ?_⟩
      simpa [Lit.wf, IntKind.min, IntKind.max, IntKind.signed, IntKind.bits] using hw
    match i, hi with
    | 0, _ => exact key _ rfl (hF 0 _ rfl (by omega))
    | 1, _ => exact key _ rfl (hF 1 _ rfl (by omega))
    | 2, _ => exact key _ rfl (hF 2 _ rfl (by omega))
    | 3, _ => exact key _ rfl (hF 3 _ rfl (by omega))
    | 4, _ => exact key _ rfl (hF 4 _ rfl (by omega))
    | 5, _ => exact key _ rfl (hF 5 _ rfl (by omega))
    | 6, _ => exact key _ rfl (hF 6 _ rfl (by omega))
    | 7, _ => exact key _ rfl (hF 7 _ rfl (by omega))
    | 8, _ => exact key _ rfl (hF 8 _ rfl (by omega))
    | 9, _ => exact key _ rfl (hF 9 _ rfl (by omega))
    | 10, _ => exact key _ rfl (hF 10 _ rfl (by omega))
    | 11, _ => exact key _ rfl (hF 11 _ rfl (by omega))
    | 12, _ => exact key _ rfl (hF 12 _ rfl (by omega))
    | 13, _ => exact key _ rfl (hF 13 _ rfl (by omega))
    | i + 14, h => exact absurd h (by omega)
  obtain ⟨N, hN⟩ := choose_lt (α := Int) hint
  obtain ⟨v14, y14, n14, g14, t14, _⟩ := hF 14 _ rfl (by omega)
  obtain ⟨v15, y15, n15, g15, t15, w15⟩ := hF 15 _ rfl (by omega)
  obtain ⟨v16, y16, n16, g16, t16, w16⟩ := hF 16 _ rfl (by omega)
  obtain ⟨v17, y17, n17, g17, t17, w17⟩ := hF 17 _ rfl (by omega)
  obtain ⟨r, e14, _⟩ := DataW.trod_bool Try.underlying4 t14
  simp only [List.cons.injEq, and_true] at e14
  subst e14
  have c0 := hcell 0 _ (hN 0 (by omega)).1
  rw [Nat.add_zero] at c0
  exact ⟨N, r, ⟨World.block_lt_of_cell? _ _ c0, c0, hcell 1 _ (hN 1 (by omega)).1, hcell 2 _ (hN 2 (by omega)).1, hcell 3 _ (hN 3 (by omega)).1, hcell 4 _ (hN 4 (by omega)).1, hcell 5 _ (hN 5 (by omega)).1, hcell 6 _ (hN 6 (by omega)).1, hcell 7 _ (hN 7 (by omega)).1, hcell 8 _ (hN 8 (by omega)).1, hcell 9 _ (hN 9 (by omega)).1, hcell 10 _ (hN 10 (by omega)).1, hcell 11 _ (hN 11 (by omega)).1, hcell 12 _ (hN 12 (by omega)).1, hcell 13 _ (hN 13 (by omega)).1, hcell 14 _ g14,
    ⟨v15, hcell 15 _ g15, open_Labs t15 w15⟩, ⟨v16, hcell 16 _ g16, open_IDs t16 w16⟩, ⟨v17, hcell 17 _ g17, open_Runs t17 w17⟩⟩, fun j hj => (hN j hj).2⟩

theorem open_Figs {fuel : Nat} {v : Value} {x : DataW H × List MemPlace} (h : DataW.trod enc Try.prog w base spare held fuel 22 [v] = some x) (hx : Within 22 x.1) :
    ∃ (n : Nat) (C : Nat → Nat → Int) (R : Nat → Bool), Figs w v n C R ∧ (∀ i j, i < n → j < 14 → -9223372036854775808 ≤ C i j ∧ C i j ≤ 9223372036854775807) ∧ ∀ ao c, v = .slice ao n c → n ≤ c := by
  obtain ⟨ao, n, c, rfl, hn, hnc, hc⟩ := open_structs Try.underlying22 Try.cells42 (by omega) Try.bytes42 h hx
  have hcap : ∀ ao' c', Value.slice ao n c = .slice ao' n c' → n ≤ c' := fun ao' c' e => by
    simp only [Value.slice.injEq, true_and] at e
    omega
  rcases Nat.eq_zero_or_pos n with h0 | h0
  · subst h0
    exact ⟨0, fun _ _ => 0, fun _ => false, ⟨ao, c, rfl, hn, fun h => absurd h (Nat.lt_irrefl _)⟩, fun i j h => absurd h (Nat.not_lt_zero _), hcap⟩
  obtain ⟨b, off, rfl, hb, hi⟩ := hc h0
  obtain ⟨CR, hCR⟩ := choose_lt (α := (Nat → Int) × Bool) (n := n) (p := fun i q => Fig w b (off + i * 18) q.1 q.2 ∧ ∀ j, j < 14 → -9223372036854775808 ≤ q.1 j ∧ q.1 j ≤ 9223372036854775807) (fun i hlt => by
    obtain ⟨cs, fl, y, hlen, hcell, ht, hw⟩ := hi i hlt
    obtain ⟨N, r, hf, hr⟩ := open_Fig hlen hcell ht hw
    exact ⟨(N, r), hf, hr⟩)
  exact ⟨n, fun i => (CR i).1, fun i => (CR i).2, ⟨_, _, rfl, hn, fun _ => ⟨b, off, rfl, fun i hlt => (hCR i hlt).1⟩⟩, fun i j hlt hj => (hCR i hlt).2 j hj, hcap⟩

end
end Go.Proofs.Qxb6630305a
