import Derived.Test.Qxb6630305aRows
import Derived.WalkKit
import Derived.WalkLawsBesides
import Derived.WalkSpells
import Derived.Deep.OwnRows
import Derived.Deep.LoopGhost
namespace Go.Proofs.Qxb6630305a
open Go.RowKit

/-- A slice of int64 that can be read in W. -/
def IDs (W : World) (v : Value) : Prop :=
  ∃ (ao : Option Addr) (n c : Nat), v = .slice ao n c ∧ 8 * n ≤ 140737488351232 ∧
    (0 < n → ∃ b off, ao = some ⟨b, off, none⟩ ∧ b < W.heap.size ∧ ∀ i, i < n → ∃ x, W.cell? ⟨b, off + i, none⟩ = some (.int .i64 x))

theorem Try.info2 : (Try.prog.info? 2).map (fun i => (i.zero, i.size, i.bytes)) = some (some (.int .i64 0), 1, 8) := by kernel_rfl

set_option maxHeartbeats 400000 in
theorem cloneIDs_any (W w : World) (v : Value) (h : IDs W v) (hb : Below W.heap.size W w) :
    Calls Try.prog 16 #[v] w fun e w' => (∃ a n c, e = .returned (.slice a n c)) ∧ Below w.heap.size w w' := by
  obtain ⟨ao, n, c, rfl, hn, hc⟩ := h
  have hmk := run_make_row' (P := Try.prog) 27 2 (.int .i64 0) 8 Try.underlying27 Try.info2 rfl .i64 .i64 n (by omega) (by omega)
  have hnil : ∀ (w : World) (a : Option Addr) (n c n' c' : Nat), (binOp .eql 27 (.slice a n c) (.slice none n' c')).run Try.prog w = .ok (.bool a.isNone) w := fun w a n c n' c' => Lib.run_eql_slice_nil w _ _ a n c n' c' Try.underlying27
  cases ao with
  | none =>
    go_enter Try.func16, Try.ntmps16
    go_wp2
    go_ret
    exact ⟨⟨_, _, _, rfl⟩, Below.refl _ _⟩
  | some a =>
    go_enter Try.func16, Try.ntmps16
    go_wp2
    clear hmk hnil
    go_loopw [4] (fun i wr => ∃ k : Nat, k ≤ n ∧ i = .int .i64 k ∧ (∃ f, wr.rowIs w.heap.size 2 n f) ∧ Below w.heap.size w wr) (fun i _ => n - (intOf i).toNat)
    case atStart => exact ⟨0, Nat.zero_le _, rfl, ⟨_, World.rowIs_made _ _ _ _⟩, (Below.refl _ _).alloc (Nat.le_refl _) _⟩
    case round =>
      obtain ⟨k, hk, rfl, ⟨f, hf⟩, hbw⟩ := hrel
      by_cases hlt : k < n
      · obtain ⟨b, off, ha, hbB, hcell⟩ := hc (by omega)
        obtain ⟨x, hx⟩ := hcell k hlt
        have hsz := hb.size
        cases ha
        have h1 : wr.cell? ⟨b, off + k, none⟩ = some (.int .i64 x) := by
          rw [hbw.cell (p := ⟨b, off + k, none⟩) (by show b < w.heap.size; omega), hb.cell (p := ⟨b, off + k, none⟩) hbB]; exact hx
        have h2 := hf.cell hlt
        have h3 := hf.frozen k
        have R := (hf.set k (.int .i64 x))
        have hbw' := hbw.setCell (p := ⟨w.heap.size, k, none⟩) (Nat.le_refl _) (.int .i64 x)
        clear hc hcell hx hf hbw hb
        go_wp2
        go_roundw
        case rel => exact ⟨k + 1, by omega, by go_num, ⟨_, R⟩, hbw'⟩
        case measure => simp [intOf]; omega
      · go_wp2
        go_ret
        exact ⟨⟨_, _, _, rfl⟩, hbw⟩

def Runs (W : World) (v : Value) : Prop :=
  ∃ (ao : Option Addr) (n c : Nat), v = .slice ao n c ∧ 24 * n ≤ 140737488351232 ∧
    (0 < n → ∃ b off, ao = some ⟨b, off, none⟩ ∧ b < W.heap.size ∧ ∀ i, i < n → ∃ x, W.cell? ⟨b, off + i, none⟩ = some x ∧ IDs W x)

theorem Try.info27 : (Try.prog.info? 27).map (fun i => (i.zero, i.size, i.bytes)) = some (some (.slice none 0 0), 1, 24) := by kernel_rfl

set_option maxHeartbeats 400000 in
theorem cloneRuns_any (W w : World) (v : Value) (h : Runs W v) (hb : Below W.heap.size W w) :
    Calls Try.prog 17 #[v] w fun e w' => (∃ a n c, e = .returned (.slice a n c)) ∧ Below w.heap.size w w' := by
  obtain ⟨ao, n, c, rfl, hn, hc⟩ := h
  have hmk := run_make_row' (P := Try.prog) 28 27 (.slice none 0 0) 24 Try.underlying28 Try.info27 rfl .i64 .i64 n (by omega) (by omega)
  have hnil : ∀ (w : World) (a : Option Addr) (n c n' c' : Nat), (binOp .eql 28 (.slice a n c) (.slice none n' c')).run Try.prog w = .ok (.bool a.isNone) w := fun w a n c n' c' => Lib.run_eql_slice_nil w _ _ a n c n' c' Try.underlying28
  cases ao with
  | none =>
    go_enter Try.func17, Try.ntmps17
    go_wp2
    go_ret
    exact ⟨⟨_, _, _, rfl⟩, Below.refl _ _⟩
  | some a =>
    go_enter Try.func17, Try.ntmps17
    go_wp2
    clear hmk hnil
    go_loopw [4] (fun i wr => ∃ k : Nat, k ≤ n ∧ i = .int .i64 k ∧ (∃ f, wr.rowIs w.heap.size 27 n f ∧ ∀ i, i < n → ∃ a m c, f i = .slice a m c) ∧ Below w.heap.size w wr) (fun i _ => n - (intOf i).toNat)
    case atStart => exact ⟨0, Nat.zero_le _, rfl, ⟨_, World.rowIs_made _ _ _ _, fun _ _ => ⟨_, _, _, rfl⟩⟩, (Below.refl _ _).alloc (Nat.le_refl _) _⟩
    case round =>
      obtain ⟨k, hk, rfl, ⟨f, hf, hsl⟩, hbw⟩ := hrel
      by_cases hlt : k < n
      · obtain ⟨b, off, ha, hbB, hcell⟩ := hc (by omega)
        obtain ⟨x, hx, hid⟩ := hcell k hlt
        have hsz := hb.size
        cases ha
        have hbW : Below W.heap.size W wr := hb.trans (hbw.mono hsz)
        obtain ⟨xa, xn, xc, rfl, _⟩ := id hid
        have h1 : wr.cell? ⟨b, off + k, none⟩ = some (.slice xa xn xc) := by
          rw [hbW.cell (p := ⟨b, off + k, none⟩) hbB]; exact hx
        clear hcell hx hc
        go_wp2_with fail
        refine (cloneIDs_any W _ _ hid hbW).mono ?_
        rintro e w1 ⟨⟨a1, n1, c1, rfl⟩, hb1⟩
        have hfl := hf.lt
        have hf1 : w1.rowIs w.heap.size 27 n f := hf.of_block (hb1.block _ hfl)
        obtain ⟨q1, q2, q3, hq⟩ := hsl k hlt
        have h2 := hf1.cell hlt
        have h3 := hf1.frozen k
        have R := (hf1.set k (.slice a1 n1 c1))
        have hbw' := (hbw.trans (hb1.mono hbw.size)).setCell (p := ⟨w.heap.size, k, none⟩) (Nat.le_refl _) (.slice a1 n1 c1)
        clear hf hbw hb hid hbW hb1 hf1
        rw [hq] at h2
        clear hq
        go_wp2
        go_roundw
        case rel => exact ⟨k + 1, by omega, by go_num, ⟨_, R, fun i hi => by
          by_cases hik : i = k
          · simp only [hik]; exact ⟨_, _, _, rfl⟩
          · simp only [hik]; exact hsl i hi⟩, hbw'⟩
        case measure => simp [intOf]; omega
      · go_wp2
        go_ret
        exact ⟨⟨_, _, _, rfl⟩, hbw⟩
end Go.Proofs.Qxb6630305a
