import Derived.Test.Qxb6630348aBase
namespace Go.Proofs.Qxb6630348a
open Go.RowKit

/-- WHAT THE WALK IS TOLD OF A SLICE OF INTEGERS THAT CAME IN (the shell's own words): it is nil; or it leads to a row of 'cap' cells, the numbers 'zs' (the first 'len' are its elements, the rest its spare room), each fitting its kind. -/
def IsRow (k : IntKind) (w : World) (a : Option Addr) (len cap : Nat) (zs : List Int) : Prop :=
  (a = none ∧ len = 0 ∧ cap = 0 ∧ zs = []) ∨
  ∃ x, a = some x ∧ len ≤ cap ∧ cap ≤ maxLen ∧ zs.length = cap ∧ (∀ i, i < zs.length → w.cell? (x.add i) = some (.int k (zs.getD i 0))) ∧ ∀ n ∈ zs, (Lit.int k n).wf = true

/-- .. as bytes -/
theorem reads_of_row {w : World} {a : Option Addr} {len cap : Nat} {zs : List Int} (h : IsRow .u8 w a len cap zs) : ∃ xs : List UInt8, Reads w (.slice a len cap) xs ∧ xs.length = len ∧ len ≤ maxLen := by
  rcases h with ⟨rfl, rfl, rfl, rfl⟩ | ⟨x, rfl, hl, hm, hz, hcell, hwf⟩
  · exact ⟨[], ⟨none, 0, rfl, fun _ => rfl, fun h => absurd h (by simp)⟩, rfl, by unfold maxLen; omega⟩
  · have hlen : ((zs.take len).map fun z => UInt8.ofNat z.toNat).length = len := by
      rw [List.length_map, List.length_take, hz]; omega
    refine ⟨(zs.take len).map fun z => UInt8.ofNat z.toNat, ⟨some x, cap, by rw [hlen], fun h => by (cases h), fun h0 => ?_⟩, hlen, Nat.le_trans hl hm⟩
    rw [hlen] at h0
    have c0 := hcell 0 (by omega)
    have hx : x = ⟨x.block, x.off, none⟩ := by
      have h1 : w.cell? x = some (.int .u8 (zs.getD 0 0)) := by simpa [Addr.add] using c0
      have := World.cell?_spot h1
      cases x
      simp_all
    refine ⟨x.block, x.off, by rw [← hx], World.block_lt_of_cell? _ _ c0, fun i hi => ?_⟩
    rw [hlen] at hi
    have c1 := hcell i (by omega)
    rw [hx, add_off] at c1
    have hzi : i < zs.length := by omega
    have hb := hwf (zs[i]) (List.getElem_mem hzi)
    have hb2 : 0 ≤ zs[i] ∧ zs[i] ≤ 255 := by
      simpa [Lit.wf, IntKind.min, IntKind.max, IntKind.signed, IntKind.bits] using hb
    rw [c1]
    congr 2
    simp only [List.getD, List.getElem?_eq_getElem hzi, Option.getD_some, List.getElem_map, List.getElem_take]
    rw [UInt8.toNat_ofNat']
    omega
end Go.Proofs.Qxb6630348a
