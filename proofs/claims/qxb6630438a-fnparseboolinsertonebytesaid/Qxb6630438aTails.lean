import Derived.Test.Qxb6630438aLaw
namespace Go.Proofs.Qxb6630438a
open Go.RowKit

theorem bs_tail (xs : List UInt8) : (bs xs).extract 1 xs.length = bs xs.tail := by
  apply ByteArray.ext
  apply Array.ext'
  unfold bs
  simp
  rw [List.take_of_length_le (by simp)]

theorem str_tail (xs : List UInt8) (h : 0 < xs.length) (W : World) : (Instr.sliceAt 9 (.string (bs xs)) (some (.int .i64 1)) none none).run Try.prog W = .ok (.string (bs xs.tail)) W := by
  have hs : (bs xs).size = xs.length := rfl
  have h1 : (1 : Int) ≤ (xs.length : Int) := by omega
  rw [run_sliceAt_string _ _ _ _ _ _ Try.underlying9]
  simp [Instr.slice, run_underlying Try.underlying9, Instr.sliceBounds, run_sliceBound, hs, h1]
  exact bs_tail xs

/-- where the slice past the first cell begins -/
def tl (g n : Nat) : Option Addr := if n = 1 then some ⟨g, 0, none⟩ else some ⟨g, 1, none⟩

theorem row_tail (g n : Nat) (h : 0 < n) (W : World) : (Instr.sliceAt 22 (.slice (some ⟨g, 0, none⟩) n n) (some (.int .i64 1)) none none).run Try.prog W = .ok (.slice (tl g n) (n - 1) (n - 1)) W := by
  have h1 : (1 : Int) ≤ (n : Int) := by omega
  unfold tl
  go_simp

theorem Reads.tail {w : World} {g n : Nat} {xs : List UInt8} (h : Reads w (.slice (some ⟨g, 0, none⟩) n n) xs) : Reads w (.slice (tl g n) (n - 1) (n - 1)) xs.tail := by
  obtain ⟨ao, c', hv, _, hc⟩ := h
  cases hv
  refine ⟨tl g xs.length, xs.length - 1, by rw [List.length_tail], fun h => by (unfold tl at h; split at h <;> cases h), fun h0 => ?_⟩
  rw [List.length_tail] at h0
  obtain ⟨b, off, ha, hb, hcell⟩ := hc (by omega)
  cases ha
  refine ⟨g, 1, by unfold tl; rw [if_neg (by omega)], hb, fun i hi => ?_⟩
  rw [List.length_tail] at hi
  have := hcell (i + 1) (by omega)
  rw [Nat.zero_add] at this
  rw [Nat.add_comm 1 i, this, List.getElem_tail]

theorem below_drewN {B : Nat} {a w : World} (h : Below B a w) (n : Nat) : Below B a (w.drewN n) := ⟨h.os, h.tape, h.output, h.size, h.block⟩

theorem Reads.drewN {w : World} {v : Value} {xs : List UInt8} (h : Reads w v xs) (m : Nat) : Reads (w.drewN m) v xs := h
end Go.Proofs.Qxb6630438a
