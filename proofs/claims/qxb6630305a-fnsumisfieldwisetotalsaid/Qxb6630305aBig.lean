import Derived.Test.Qxb6630305aCnt
namespace Go.Proofs.Qxb6630305a
open Go.RowKit

/-- the middle of a round of the size guard: block M holds the ZFig -/
structure Gd (w : World) (M : Nat) (F : Array Value) (wx : World) : Prop where
  bw : Below w.heap.size w wx
  hF : wx.heap[M]? = some (.cells F 42 (0, 0))
  le : w.heap.size ≤ M
  lt : M < wx.heap.size

theorem Gd.start {w wr : World} (hb : Below w.heap.size w wr) (F : Array Value) : Gd w wr.heap.size F (wr.alloc (.cells F 42)) :=
  ⟨hb.alloc hb.size _, heap_alloc_new _ _, hb.size, by simp⟩

theorem Gd.alloc {w wx : World} {M : Nat} {F : Array Value} (h : Gd w M F wx) (o : Obj) : Gd w M F (wx.alloc o) := by
  have h1 := h.lt
  have h2 := h.le
  exact ⟨h.bw.alloc (by omega) _, by rw [Below.heap_alloc _ _ _ h1]; exact h.hF, h2, by simp; omega⟩

theorem Gd.cell {w wx : World} {M : Nat} {F : Array Value} (h : Gd w M F wx) (j : Nat) : wx.cell? ⟨M, j, none⟩ = F[j]? := cell_of_row _ _ _ _ _ _ h.hF

def IsB (v : Value) : Prop := ∃ b : Bool, v = .bool b
def IsI (v : Value) : Prop := ∃ z : Int, v = .int .i64 z

theorem cells6 {w : World} {b o : Nat} {v0 v1 v2 v3 v4 v5 : Value}
    (h0 : w.cell? ⟨b, o, none⟩ = some v0) (h1 : w.cell? ⟨b, o + 1, none⟩ = some v1) (h2 : w.cell? ⟨b, o + 2, none⟩ = some v2) (h3 : w.cell? ⟨b, o + 3, none⟩ = some v3) (h4 : w.cell? ⟨b, o + 4, none⟩ = some v4) (h5 : w.cell? ⟨b, o + 5, none⟩ = some v5) :
    ∀ j v, ([v0, v1, v2, v3, v4, v5] : List Value)[j]? = some v → w.cell? ((⟨b, o, none⟩ : Addr).add j) = some v := by
  intro j v hj
  rw [add_off]
  match j, hj with
  | 0, hj => rw [← hj]; exact h0
  | 1, hj => rw [← hj]; exact h1
  | 2, hj => rw [← hj]; exact h2
  | 3, hj => rw [← hj]; exact h3
  | 4, hj => rw [← hj]; exact h4
  | 5, hj => rw [← hj]; exact h5
  | j + 6, hj => simp at hj

set_option maxHeartbeats 2000000 in
set_option maxRecDepth 100000 in
theorem tooBig_any (W w : World) (v : Value) (n : Nat) (C : Nat → Nat → Int) (R : Nat → Bool) (h : Figs W v n C R) (hb : Below W.heap.size W w) :
    Calls Try.prog 6 #[v] w fun e w' => SomeBool e ∧ Below w.heap.size w w' := by
  obtain ⟨ao, c, rfl, hn, hc⟩ := h
  have hsz := hb.size
  by_cases hbig : (65536 : Int) < (n : Int)
  · go_enter Try.func6, Try.ntmps6
    go_wp2_with fail
    go_ret
    exact ⟨⟨_, rfl⟩, Below.refl _ _⟩
  have hbig' : decide ((65536 : Int) < (n : Int)) = false := by simpa using hbig
  go_enter Try.func6, Try.ntmps6
  go_wp2_with (go_at_call 14; refine (zzAdd_any _ _ _).mono ?_; rintro e w' ⟨⟨z, b, rfl⟩, rfl⟩; cases b)
  · go_ret
    exact ⟨⟨_, rfl⟩, Below.refl _ _⟩
  go_loopw [3, 4, 5] (fun t o i wr => ∃ k : Nat, k ≤ n ∧ IsI t ∧ IsB o ∧ i = .int .i64 k ∧ Below w.heap.size w wr) (fun _ _ i _ => n - (intOf i).toNat)
  case atStart => exact ⟨0, Nat.zero_le _, ⟨_, rfl⟩, ⟨_, rfl⟩, rfl, Below.refl _ _⟩
  case round =>
    obtain ⟨k, hk, ⟨t0, rfl⟩, ⟨o0, rfl⟩, rfl, hbw⟩ := hrel
    by_cases hlt : k < n
    · obtain ⟨b, off, ha, hcell⟩ := hc (by omega)
      cases ha
      have hbW : Below W.heap.size W wr := hb.trans (hbw.mono hsz)
      obtain ⟨hlt0, c0, c1, c2, c3, c4, c5, c6, c7, c8, c9, c10, c11, c12, c13, c14, ⟨v15, c15, l15⟩, ⟨v16, c16, l16⟩, ⟨v17, c17, l17⟩⟩ := hcell k hlt
      rw [← hbW.cell (p := ⟨b, _, none⟩) hlt0] at c0 c1 c2 c3 c4 c5 c6 c7 c8 c9 c10 c11 c12 c13 c14 c15 c16 c17
      obtain ⟨a15, n15, p15, rfl, hn15, hc15⟩ := id l15
      obtain ⟨a16, n16, p16, rfl, hn16, _⟩ := id l16
      obtain ⟨a17, n17, p17, rfl, hn17, hc17⟩ := id l17
      have HL : LoadsAt Try.prog wr 42 ⟨b, off + k * 18, none⟩ (fcells (C k) (R k) (.slice a15 n15 p15) (.slice a16 n16 p16) (.slice a17 n17 p17)).toList :=
        ⟨cells18 c0 c1 c2 c3 c4 c5 c6 c7 c8 c9 c10 c11 c12 c13 c14 c15 c16 c17, by kernel_rfl, by kernel_rfl⟩
      have G0 := Gd.start hbw (fcells (C k) (R k) (.slice a15 n15 p15) (.slice a16 n16 p16) (.slice a17 n17 p17))
      have HC15 := (id hc15 : Hid _)
      have HC17 := (id hc17 : Hid _)
      obtain ⟨M, hM⟩ : ∃ M, Hid (M = wr.heap.size) := ⟨_, rfl⟩
      clear hcell hc c0 c1 c2 c3 c4 c5 c6 c7 c8 c9 c10 c11 c12 c13 c14 c15 c16 c17 hc15 hc17
      unfold fcells at HL G0
      go_wp2_with (first | ((with_reducible refine HL.use ?_ ?_); rfl) | ((with_reducible refine at_store_new (c' := (#[.int .i64 (C k 0), .int .i64 (C k 1), .int .i64 (C k 2), .int .i64 (C k 3), .int .i64 (C k 4), .int .i64 (C k 5), .int .i64 (C k 6), .int .i64 (C k 7), .int .i64 (C k 8), .int .i64 (C k 9), .int .i64 (C k 10), .int .i64 (C k 11), .int .i64 (C k 12), .int .i64 (C k 13), .bool (R k), .slice a15 n15 p15, .slice a16 n16 p16, .slice a17 n17 p17] : Array Value)) ?_ ?_ ?_ ?_ ?_ ?_); rfl; rfl; kernel_rfl; rfl; rfl) | (go_at_call 14; refine (zzAdd_any _ _ _).mono ?_; rintro e w' ⟨⟨z, b, rfl⟩, rfl⟩; cases b))
      all_goals (try (go_ret; exact ⟨⟨_, rfl⟩, G0.bw⟩))
      clear HL hM
      obtain ⟨wo, rfl⟩ : ∃ wo : World, wo = wr := ⟨_, rfl⟩
      go_loopw [3, 4, 7] (fun t o j wi => ∃ m : Nat, m ≤ n15 ∧ IsI t ∧ IsB o ∧ j = .int .i64 m ∧ Gd w wo.heap.size #[.int .i64 (C k 0), .int .i64 (C k 1), .int .i64 (C k 2), .int .i64 (C k 3), .int .i64 (C k 4), .int .i64 (C k 5), .int .i64 (C k 6), .int .i64 (C k 7), .int .i64 (C k 8), .int .i64 (C k 9), .int .i64 (C k 10), .int .i64 (C k 11), .int .i64 (C k 12), .int .i64 (C k 13), .bool (R k), .slice a15 n15 p15, .slice a16 n16 p16, .slice a17 n17 p17] wi) (fun _ _ j _ => n15 - (intOf j).toNat)
      case atStart => exact ⟨0, Nat.zero_le _, ⟨_, rfl⟩, ⟨_, rfl⟩, rfl, G0⟩
      case round =>
        clear G0
        obtain ⟨m, hm, ⟨t1, rfl⟩, ⟨o1, rfl⟩, rfl, G1⟩ := hrel
        have g15 := G1.cell 15
        simp at g15
        by_cases hlt1 : m < n15
        · obtain ⟨b1, off1, ha1, hbB1, hc1⟩ := HC15.out (by omega)
          cases ha1
          obtain ⟨x0, x4, s1, s2, s3, p, h0, h1, h2, h3, h4, h5, hp⟩ := (hc1 m hlt1).below (hb.trans (G1.bw.mono hsz))
          have HL1 : LoadsAt Try.prog wr 45 ⟨b1, off1 + m * 6, none⟩ [.int .i64 x0, .string s1, .string s2, .string s3, .int .i64 x4, .pointer p] := ⟨cells6 h0 h1 h2 h3 h4 h5, by kernel_rfl, by kernel_rfl⟩
          clear hc1 h0 h1 h2 h3 h4 h5 hp
          have G2 := G1.alloc (.cells #[.int .i64 x0, .string s1, .string s2, .string s3, .int .i64 x4, .pointer p] 45)
          go_wp2_with (first | ((with_reducible refine HL1.use ?_ ?_); rfl) | ((with_reducible refine at_store_new (c' := #[.int .i64 x0, .string s1, .string s2, .string s3, .int .i64 x4, .pointer p]) ?_ ?_ ?_ ?_ ?_ ?_); rfl; rfl; kernel_rfl; rfl; rfl) | (go_at_call 14; refine (zzAdd_any _ _ _).mono ?_; rintro e w' ⟨⟨z, b, rfl⟩, rfl⟩; cases b))
          all_goals (try (go_ret; exact ⟨⟨_, rfl⟩, G2.bw⟩))
          go_roundw
          case rel => exact ⟨m + 1, by omega, ⟨_, rfl⟩, ⟨_, rfl⟩, by go_num, G2⟩
          case measure => simp [intOf]; omega
        · go_wp2
          clear g15
          obtain ⟨wp, rfl⟩ : ∃ wp : World, wp = wr := ⟨_, rfl⟩
          go_loopw [3, 4, 9] (fun t o j wi => ∃ m : Nat, m ≤ n17 ∧ IsI t ∧ IsB o ∧ j = .int .i64 m ∧ Gd w wo.heap.size #[.int .i64 (C k 0), .int .i64 (C k 1), .int .i64 (C k 2), .int .i64 (C k 3), .int .i64 (C k 4), .int .i64 (C k 5), .int .i64 (C k 6), .int .i64 (C k 7), .int .i64 (C k 8), .int .i64 (C k 9), .int .i64 (C k 10), .int .i64 (C k 11), .int .i64 (C k 12), .int .i64 (C k 13), .bool (R k), .slice a15 n15 p15, .slice a16 n16 p16, .slice a17 n17 p17] wi) (fun _ _ j _ => n17 - (intOf j).toNat)
          case atStart => exact ⟨0, Nat.zero_le _, ⟨_, rfl⟩, ⟨_, rfl⟩, rfl, G1⟩
          case round =>
            clear G1
            obtain ⟨m2, hm2, ⟨t2, rfl⟩, ⟨o2, rfl⟩, rfl, G1⟩ := hrel
            have g17 := G1.cell 17
            simp at g17
            by_cases hlt2 : m2 < n17
            · obtain ⟨b1, off1, ha1, hbB1, hc1⟩ := HC17.out (by omega)
              cases ha1
              obtain ⟨x, hx, hid⟩ := hc1 m2 hlt2
              obtain ⟨xa, xn, xc, rfl, hxn, _⟩ := hid
              have h1 : wr.cell? ⟨b1, off1 + m2, none⟩ = some (.slice xa xn xc) := by
                rw [(hb.trans (G1.bw.mono hsz)).cell (p := ⟨b1, off1 + m2, none⟩) hbB1]; exact hx
              clear hc1 hx
              go_wp2_with (go_at_call 14; refine (zzAdd_any _ _ _).mono ?_; rintro e w' ⟨⟨z, b, rfl⟩, rfl⟩; cases b)
              all_goals (try (go_ret; exact ⟨⟨_, rfl⟩, G1.bw⟩))
              go_roundw
              case rel => exact ⟨m2 + 1, by omega, ⟨_, rfl⟩, ⟨_, rfl⟩, by go_num, G1⟩
              case measure => simp [intOf]; omega
            · go_wp2
              go_roundw
              case rel => exact ⟨k + 1, by omega, ⟨_, rfl⟩, ⟨_, rfl⟩, by go_num, G1.bw⟩
              case measure => simp [intOf]; omega
    · go_wp2
      go_ret
      exact ⟨⟨_, rfl⟩, hbw⟩
end Go.Proofs.Qxb6630305a
