import Derived.Test.Qxb6630305aFig
namespace Go.Proofs.Qxb6630305a
open Go.RowKit

/-- a slice of Figures in memory that the call has made: n of them, the counts C, the flags R -/
def FigsOut (w : World) (v : Value) (n : Nat) (C : Nat → Nat → Int) (R : Nat → Bool) : Prop :=
  (v = .slice none 0 0 ∧ n = 0) ∨ ∃ (b : Nat) (f : Nat → Value), v = .slice (some ⟨b, 0, none⟩) n n ∧ w.rowIs b 30 (n * 18) f ∧ ∀ i, i < n → Fcells (fun j => f (i * 18 + j)) (C i) (R i)

set_option maxHeartbeats 1000000 in
theorem toFigures_any (W w : World) (v : Value) (n : Nat) (C : Nat → Nat → Int) (R : Nat → Bool) (h : Figs W v n C R) (hb : Below W.heap.size W w) :
    Calls Try.prog 7 #[v] w fun e w' => (∃ v, e = .returned v ∧ FigsOut w' v n C R) ∧ Below w.heap.size w w' := by
  obtain ⟨ao, c, rfl, hn, hc⟩ := h
  have hmk := run_make_rows 24 30 _ 18 192 Try.underlying24 Try.info30 .i64 .i64 n (by omega) (by omega)
  have hnil : ∀ (w : World) (a : Option Addr) (n c n' c' : Nat), (binOp .eql 22 (.slice a n c) (.slice none n' c')).run Try.prog w = .ok (.bool a.isNone) w := fun w a n c n' c' => Lib.run_eql_slice_nil w _ _ a n c n' c' Try.underlying22
  cases ao with
  | none =>
    have hn0 : n = 0 := by
      rcases Nat.eq_zero_or_pos n with h | h
      · exact h
      · obtain ⟨b, off, h, _⟩ := hc h
        cases h
    subst hn0
    go_enter Try.func7, Try.ntmps7
    go_wp2
    go_ret
    exact ⟨⟨_, rfl, Or.inl ⟨rfl, rfl⟩⟩, Below.refl _ _⟩
  | some a =>
    go_enter Try.func7, Try.ntmps7
    go_wp2
    clear hmk hnil
    go_loopw [4] (fun i wr => ∃ k : Nat, k ≤ n ∧ i = .int .i64 k ∧ (∃ f, wr.rowIs w.heap.size 30 (n * 18) f ∧ ∀ i, i < k → Fcells (fun j => f (i * 18 + j)) (C i) (R i)) ∧ Below w.heap.size w wr) (fun i _ => n - (intOf i).toNat)
    case atStart => exact ⟨0, Nat.zero_le _, rfl, ⟨_, rowIs_made_any _ _ _ _, fun _ h => absurd h (Nat.not_lt_zero _)⟩, (Below.refl _ _).alloc (Nat.le_refl _) _⟩
    case round =>
      obtain ⟨k, hk, rfl, ⟨f, hf, hF⟩, hbw⟩ := hrel
      by_cases hlt : k < n
      · obtain ⟨b, off, ha, hcell⟩ := hc (by omega)
        have hsz := hb.size
        cases ha
        have hbW : Below W.heap.size W wr := hb.trans (hbw.mono hsz)
        obtain ⟨hlt0, c0, c1, c2, c3, c4, c5, c6, c7, c8, c9, c10, c11, c12, c13, c14, ⟨v15, c15, l15⟩, ⟨v16, c16, l16⟩, ⟨v17, c17, l17⟩⟩ := hcell k hlt
        rw [← hbW.cell (p := ⟨b, _, none⟩) hlt0] at c0 c1 c2 c3 c4 c5 c6 c7 c8 c9 c10 c11 c12 c13 c14 c15 c16 c17
        obtain ⟨a15, n15, p15, rfl, _⟩ := id l15
        obtain ⟨a16, n16, p16, rfl, _⟩ := id l16
        obtain ⟨a17, n17, p17, rfl, _⟩ := id l17
        have hl := hf.lt
        have HL : LoadsAt Try.prog wr 42 ⟨b, off + k * 18, none⟩ (fcells (C k) (R k) (.slice a15 n15 p15) (.slice a16 n16 p16) (.slice a17 n17 p17)).toList :=
          ⟨cells18 c0 c1 c2 c3 c4 c5 c6 c7 c8 c9 c10 c11 c12 c13 c14 c15 c16 c17, by kernel_rfl, by kernel_rfl⟩
        have M0 : ∀ F G, Mid W w wr.heap.size (n * 18) f F G ((wr.alloc (.cells F 42)).alloc (.cells G 30)) := fun F G => Mid.start hb hbw hf
        clear hcell hc c0 c1 c2 c3 c4 c5 c6 c7 c8 c9 c10 c11 c12 c13 c14 c15 c16 c17 hb hbw hbW hf
        unfold fcells at HL
        go_wp2_with (first | ((with_reducible refine HL.use ?_ ?_); rfl) | ((with_reducible refine at_store_new (c' := (#[.int .i64 (C k 0), .int .i64 (C k 1), .int .i64 (C k 2), .int .i64 (C k 3), .int .i64 (C k 4), .int .i64 (C k 5), .int .i64 (C k 6), .int .i64 (C k 7), .int .i64 (C k 8), .int .i64 (C k 9), .int .i64 (C k 10), .int .i64 (C k 11), .int .i64 (C k 12), .int .i64 (C k 13), .bool (R k), .slice a15 n15 p15, .slice a16 n16 p16, .slice a17 n17 p17] : Array Value)) ?_ ?_ ?_ ?_ ?_ ?_); rfl; rfl; kernel_rfl; rfl; rfl))
        have M1 := M0 (fcells (C k) (R k) (.slice a15 n15 p15) (.slice a16 n16 p16) (.slice a17 n17 p17)) (fcells (C k) (R k) (.slice none 0 0) (.slice none 0 0) (.slice none 0 0))
        unfold fcells at M1
        clear M0 HL
        refine (toLabels_any W _ _ l15 M1.bW).mono ?_
        rintro e w1 ⟨⟨a1, n1, q1, rfl⟩, hb1⟩
        have M2 := M1.call hb1
        clear M1 hb1 l15
        have M3 := M2.set hsz 15 (.slice a1 n1 q1)
        have g15 := M2.cellG 15
        have g16 := M2.cellF 16
        have z15 := M2.frozenG 15
        have hz := M2.size
        simp only [List.getElem?_toArray, List.getElem?_cons_succ, List.getElem?_cons_zero] at g15 g16
        clear M2
        go_wp2_with fail
        clear g15 g16 z15 hz
        refine (cloneIDs_any W _ _ l16 M3.bW).mono ?_
        rintro e w2 ⟨⟨a2, n2, q2, rfl⟩, hb2⟩
        have M4 := M3.call hb2
        clear M3 hb2 l16
        have M5 := M4.set hsz 16 (.slice a2 n2 q2)
        have g16 := M4.cellG 16
        have g17 := M4.cellF 17
        have z16 := M4.frozenG 16
        have hz := M4.size
        simp at g16 g17
        clear M4
        go_wp2_with fail
        clear g16 g17 z16 hz
        refine (cloneRuns_any W _ _ l17 M5.bW).mono ?_
        rintro e w3 ⟨⟨a3, n3, q3, rfl⟩, hb3⟩
        have M6 := M5.call hb3
        clear M5 hb3 l17
        have M7 : Mid W w wr.heap.size (n * 18) f _ (fcells (C k) (R k) (.slice a1 n1 q1) (.slice a2 n2 q2) (.slice a3 n3 q3)) (w3.setCell ⟨wr.heap.size + 1, 17, none⟩ (.slice a3 n3 q3)) := M6.set hsz 17 (.slice a3 n3 q3)
        have g17 := M6.cellG 17
        have z17 := M6.frozenG 17
        have hz := M6.size
        simp at g17
        clear M6
        have HL : LoadsAt Try.prog (w3.setCell ⟨wr.heap.size + 1, 17, none⟩ (.slice a3 n3 q3)) 30 ⟨wr.heap.size + 1, 0, none⟩ (fcells (C k) (R k) (.slice a1 n1 q1) (.slice a2 n2 q2) (.slice a3 n3 q3)).toList := LoadsAt.of_block M7.hG (by kernel_rfl) (by kernel_rfl)
        have HS : StoresAt Try.prog (w3.setCell ⟨wr.heap.size + 1, 17, none⟩ (.slice a3 n3 q3)) 30 w.heap.size (k * 18) (fcells (C k) (R k) (.slice a1 n1 q1) (.slice a2 n2 q2) (.slice a3 n3 q3)).size :=
          ⟨fun j hj => by have hj' : j < 18 := hj; rw [M7.row.cell (show k * 18 + j < n * 18 by omega)]; rfl, fun j _ => M7.row.frozen _, by kernel_rfl⟩
        have R := fig_round M7 hF
        clear M7
        unfold fcells at HL HS R
        go_wp2_with (first | ((with_reducible refine HL.use ?_ ?_); rfl) | ((with_reducible refine HS.use ?_ ?_ ?_ ?_); rfl; rfl; rfl))
        go_roundw
        case rel => exact ⟨k + 1, by omega, by go_num, R.1, R.2⟩
        case measure => simp [intOf]; omega
      · go_wp2
        go_ret
        have hkn : k = n := by omega
        subst hkn
        exact ⟨⟨_, rfl, Or.inr ⟨_, _, rfl, hf, hF⟩⟩, hbw⟩
end Go.Proofs.Qxb6630305a
