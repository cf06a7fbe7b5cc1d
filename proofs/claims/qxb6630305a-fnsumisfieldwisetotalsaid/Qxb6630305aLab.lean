import Derived.Test.Qxb6630305aMem
namespace Go.Proofs.Qxb6630305a
open Go.RowKit

def Lab (W : World) (b off : Nat) : Prop :=
  ∃ (x0 x4 : Int) (s1 s2 s3 : ByteArray) (p : Option Addr),
    W.cell? ⟨b, off, none⟩ = some (.int .i64 x0) ∧ W.cell? ⟨b, off + 1, none⟩ = some (.string s1) ∧ W.cell? ⟨b, off + 2, none⟩ = some (.string s2) ∧
    W.cell? ⟨b, off + 3, none⟩ = some (.string s3) ∧ W.cell? ⟨b, off + 4, none⟩ = some (.int .i64 x4) ∧ W.cell? ⟨b, off + 5, none⟩ = some (.pointer p) ∧
    ∀ a, p = some a → ∃ q o y, a = ⟨q, o, none⟩ ∧ q < W.heap.size ∧ W.cell? ⟨q, o, none⟩ = some (.int .i64 y)

def Labs (W : World) (v : Value) : Prop :=
  ∃ (ao : Option Addr) (n c : Nat), v = .slice ao n c ∧ 72 * n ≤ 140737488351232 ∧
    (0 < n → ∃ b off, ao = some ⟨b, off, none⟩ ∧ b < W.heap.size ∧ ∀ i, i < n → Lab W b (off + i * 6))

theorem Lab.below {W w : World} {b off : Nat} (h : Lab W b off) (hb : Below W.heap.size W w) : Lab w b off := by
  have hbB : b < W.heap.size := by
    obtain ⟨x0, x4, s1, s2, s3, p, h0, _⟩ := h
    exact World.block_lt_of_cell? _ _ h0
  obtain ⟨x0, x4, s1, s2, s3, p, h0, h1, h2, h3, h4, h5, hp⟩ := h
  have e : ∀ o, w.cell? ⟨b, o, none⟩ = W.cell? ⟨b, o, none⟩ := fun o => hb.cell (p := ⟨b, o, none⟩) hbB
  refine ⟨x0, x4, s1, s2, s3, p, by rw [e]; exact h0, by rw [e]; exact h1, by rw [e]; exact h2, by rw [e]; exact h3, by rw [e]; exact h4, by rw [e]; exact h5, fun a ha => ?_⟩
  obtain ⟨q, o, y, rfl, hq, hy⟩ := hp a ha
  exact ⟨q, o, y, rfl, Nat.lt_of_lt_of_le hq hb.size, by rw [hb.cell (p := ⟨q, o, none⟩) hq]; exact hy⟩

theorem run_make_rows (t e : TypeId) (z : Value) (size bytes : Nat) (ht : Try.prog.underlying t = some (.slice e)) (hinfo : (Try.prog.info? e).map (fun i => (i.zero, i.size, i.bytes)) = some (some z, size, bytes))
    (kl kc : IntKind) (n : Nat) (hbytes : bytes * n ≤ 281474976710656) (h63 : n ≤ 9223372036854775807) (w : World) :
    (Instr.makeSlice t (.int kl (n : Int)) (.int kc (n : Int))).run Try.prog w = .ok (.slice (some ⟨w.heap.size, 0, none⟩) n n) (w.alloc (.cells (madeCells z.cells (n * size)) e)) := by
  obtain ⟨i, hi, hzz⟩ := Option.map_eq_some_iff.1 hinfo
  simp only [Prod.mk.injEq] at hzz
  obtain ⟨hz, hs, hb⟩ := hzz
  have hb' : (i.bytes : Int) * (n : Int) ≤ 281474976710656 := by
    have h : ((i.bytes * n : Nat) : Int) ≤ 281474976710656 := by rw [hb]; omega
    rwa [Int.natCast_mul] at h
  have hr := run_make (P := Try.prog) w t e i z ht hi hz kl kc n n (by omega) (Int.le_refl _) hb' (by omega)
  simp only [Int.toNat_natCast, hs] at hr
  exact hr

/-- what make lays, of whatever element -/
theorem rowIs_made_any (w : World) (z : Array Value) (n : Nat) (t : TypeId) : (w.alloc (.cells (madeCells z n) t)).rowIs w.heap.size t n (fun i => z[i % z.size]!) :=
  ⟨_, Deep.blk_alloc_new _ _, size_madeCells _ _, fun i hi => by simp [madeCells, hi]⟩

theorem Try.info53 : (Try.prog.info? 53).map (fun i => (i.zero, i.size, i.bytes)) = some (some (.agg #[.int .i64 0, .string ⟨#[]⟩, .string ⟨#[]⟩, .string ⟨#[]⟩, .int .i64 0, .pointer none]), 6, 72) := by kernel_rfl

set_option maxHeartbeats 400000 in
theorem toLabels_any (W w : World) (v : Value) (h : Labs W v) (hb : Below W.heap.size W w) :
    Calls Try.prog 15 #[v] w fun e w' => (∃ a n c, e = .returned (.slice a n c)) ∧ Below w.heap.size w w' := by
  obtain ⟨ao, n, c, rfl, hn, hc⟩ := h
  have hmk := run_make_rows 26 53 _ 6 72 Try.underlying26 Try.info53 .i64 .i64 n (by omega) (by omega)
  have hnil : ∀ (w : World) (a : Option Addr) (n c n' c' : Nat), (binOp .eql 40 (.slice a n c) (.slice none n' c')).run Try.prog w = .ok (.bool a.isNone) w := fun w a n c n' c' => Lib.run_eql_slice_nil w _ _ a n c n' c' Try.underlying40
  cases ao with
  | none =>
    go_enter Try.func15, Try.ntmps15
    go_wp2
    go_ret
    exact ⟨⟨_, _, _, rfl⟩, Below.refl _ _⟩
  | some a =>
    go_enter Try.func15, Try.ntmps15
    go_wp2
    clear hmk hnil
    go_loopw [4] (fun i wr => ∃ k : Nat, k ≤ n ∧ i = .int .i64 k ∧ (∃ f, wr.rowIs w.heap.size 53 (n * 6) f) ∧ Below w.heap.size w wr) (fun i _ => n - (intOf i).toNat)
    case atStart => exact ⟨0, Nat.zero_le _, rfl, ⟨_, rowIs_made_any _ _ _ _⟩, (Below.refl _ _).alloc (Nat.le_refl _) _⟩
    case round =>
      obtain ⟨k, hk, rfl, ⟨f, hf⟩, hbw⟩ := hrel
      by_cases hlt : k < n
      · obtain ⟨b, off, ha, hbB, hcell⟩ := hc (by omega)
        have hsz := hb.size
        cases ha
        have hbW : Below W.heap.size W wr := hb.trans (hbw.mono hsz)
        obtain ⟨x0, x4, s1, s2, s3, p, h0, h1, h2, h3, h4, h5, hp⟩ := (hcell k hlt).below hbW
        have hl := hf.lt
        have hl1 : w.heap.size < wr.heap.size + 1 := by omega
        have hl2 : w.heap.size < wr.heap.size + 1 + 1 := by omega
        have hl3 : w.heap.size < wr.heap.size + 2 := by omega
        have g0 := hf.cell (show k * 6 < n * 6 by omega)
        have g1 := hf.cell (show k * 6 + 1 < n * 6 by omega)
        have g2 := hf.cell (show k * 6 + 2 < n * 6 by omega)
        have g3 := hf.cell (show k * 6 + 3 < n * 6 by omega)
        have g4 := hf.cell (show k * 6 + 4 < n * 6 by omega)
        have g5 := hf.cell (show k * 6 + 5 < n * 6 by omega)
        have e0 := hf.frozen
        clear hcell hc hbW hb
        cases p with
        | none =>
          clear hp
          go_wp2
          go_roundw
          case rel =>
            exact ⟨k + 1, by omega, by go_num, ⟨_, ((((((((hf.set _ _).set _ _).set _ _).set _ _).set _ _).set _ _).alloc _).alloc _)⟩,
              (((((((hbw.setCell (Nat.le_refl _) _).setCell (Nat.le_refl _) _).setCell (Nat.le_refl _) _).setCell (Nat.le_refl _) _).setCell (Nat.le_refl _) _).setCell (Nat.le_refl _) _).alloc (by simp; omega) _).alloc (by simp; omega) _⟩
          case measure => simp [intOf]; omega
        | some pa =>
          obtain ⟨q, o, y, rfl, hq, hy⟩ := hp pa rfl
          clear hp
          go_wp2
          go_roundw
          case rel =>
            exact ⟨k + 1, by omega, by go_num, ⟨_, (((((((((hf.set _ _).set _ _).set _ _).set _ _).set _ _).set _ _).alloc _).alloc _).alloc _)⟩,
              ((((((((hbw.setCell (Nat.le_refl _) _).setCell (Nat.le_refl _) _).setCell (Nat.le_refl _) _).setCell (Nat.le_refl _) _).setCell (Nat.le_refl _) _).setCell (Nat.le_refl _) _).alloc (by simp; omega) _).alloc (by simp; omega) _).alloc (by simp; omega) _⟩
          case measure => simp [intOf]; omega
      · go_wp2
        go_ret
        exact ⟨⟨_, _, _, rfl⟩, hbw⟩
end Go.Proofs.Qxb6630305a
