import Derived.Test.Qxb6630438aRows
import Derived.WalkKit
import Derived.WalkLawsBesides
import Derived.WalkSpells
import Derived.Deep.OwnRows
import Derived.Deep.QuietTactic
import Derived.BigQuiet
import Derived.Laws.CopyOwn
import Derived.Laws.IdiomStrings
import Derived.Lib.AppendStr
namespace Go.Proofs.Qxb6630438a
open Go.RowKit

/-- bytes as cells -/
def bc (l : List UInt8) : List Value := l.map fun b => Value.int .u8 b.toNat

theorem bc_length (l : List UInt8) : (bc l).length = l.length := by simp [bc]
theorem bc_append (a b : List UInt8) : bc (a ++ b) = bc a ++ bc b := by simp [bc]
theorem bc_oneCell (l : List UInt8) : ∀ u ∈ bc l, u.oneCell' = true := by
  intro u hu
  simp only [bc, List.mem_map] at hu
  obtain ⟨b, _, rfl⟩ := hu
  rfl
theorem bc_get (l : List UInt8) (i : Nat) (h : i < l.length) : (bc l)[i]? = some (.int .u8 l[i].toNat) := by simp [bc, h]

theorem add_off (b o j : Nat) : (⟨b, o, none⟩ : Addr).add j = ⟨b, o + j, none⟩ := by unfold Addr.add; split <;> simp_all

/-- a slice of bytes that can be read in w -/
def Reads (w : World) (v : Value) (xs : List UInt8) : Prop :=
  ∃ (ao : Option Addr) (c : Nat), v = .slice ao xs.length c ∧ (ao = none → xs = []) ∧ (0 < xs.length → ∃ b off, ao = some ⟨b, off, none⟩ ∧ b < w.heap.size ∧ ∀ i (h : i < xs.length), w.cell? ⟨b, off + i, none⟩ = some (.int .u8 xs[i].toNat))

theorem Reads.below {w w' : World} {v : Value} {xs : List UInt8} (h : Reads w v xs) (hb : Below w.heap.size w w') : Reads w' v xs := by
  obtain ⟨ao, c, rfl, hn, hc⟩ := h
  refine ⟨ao, c, rfl, hn, fun h0 => ?_⟩
  obtain ⟨b, off, rfl, hlt, hcell⟩ := hc h0
  exact ⟨b, off, rfl, Nat.lt_of_lt_of_le hlt hb.size, fun i hi => by rw [hb.cell (p := ⟨b, off + i, none⟩) hlt]; exact hcell i hi⟩

/-- a slice of bytes that the call has made -/
def Owns (w : World) (base : Nat) (v : Value) (xs : List UInt8) : Prop := w.ownsRow base 5 1 v xs.length (bc xs)

theorem Owns.reads {w : World} {base : Nat} {v : Value} {xs : List UInt8} (h : Owns w base v xs) : Reads w v xs := by
  rcases h.2 with ⟨rfl, h0⟩ | ⟨g, cap, cur, rfl, hb, hh, _⟩
  · have : xs = [] := List.eq_nil_of_length_eq_zero h0
    subst this
    exact ⟨none, 0, rfl, fun _ => rfl, fun h => absurd h (by simp)⟩
  · refine ⟨some ⟨g, 0, none⟩, cap, rfl, fun h => by (cases h), fun _ => ⟨g, 0, rfl, (Array.getElem?_eq_some_iff.1 hh).1, fun i hi => ?_⟩⟩
    have := World.ownsRow.cellAt h i (by omega)
    rw [bc_get _ _ hi] at this
    rw [Nat.zero_add]; exact this

theorem Owns.below {w w' : World} {base B : Nat} {v : Value} {xs : List UInt8} (h : Owns w base v xs) (hb : Below B w w') (hB : ∀ k, v.ownBlock = some k → k < B) : Owns w' base v xs := by
  obtain ⟨h1, h2⟩ := h
  refine ⟨h1, ?_⟩
  rcases h2 with h2 | ⟨g, cap, cur, rfl, hg, hh, r⟩
  · exact Or.inl h2
  · exact Or.inr ⟨g, cap, cur, rfl, hg, by rw [hb.block g (hB g rfl)]; exact hh, r⟩

theorem Owns.nil (w : World) (base : Nat) : Owns w base (.slice none 0 0) [] := World.ownsRow_nil w base 5 1

theorem Try.info5 : (Try.prog.info? 5).map (fun i => (i.zero, i.size, i.bytes)) = some (some (.int .u8 0), 1, 1) := by kernel_rfl

def SomeBool (e : Ending) : Prop := ∃ b : Bool, e = .returned (.bool b)

/-- the copy's law with the operation written out -/
theorem at_copy {P : Program} {w : World} {ops : Array Oper} {rest : List Oper} {dst : Option Tmp} {type : TypeId} {pos : String} {after : Array Edge} {a : Act} {Q : Exit → Act → World → Prop} {d s : Operand} {dT sT : TypeId}
    {elem : TypeId} (hu : P.underlying dT = some (.slice elem)) (hsz : (P.info? elem).map (·.size) = some 1)
    {dp sp : Option Addr} {dLen dCap sLen sCap : Nat} (hd : a.eval d = .slice dp dLen dCap) (hs : a.eval s = .slice sp sLen sCap)
    (g off : Nat) (cur : List Value) (t : TypeId) (hg : w.heap[g]? = some (.cells cur.toArray t (0, 0))) (cs : List Value) (hn : cs.length = Nat.min sLen dLen)
    (hpos : 0 < cs.length → dp = some ⟨g, off, none⟩ ∧ ∃ ad, sp = some ad ∧ ∀ j v, cs[j]? = some v → w.cell? (ad.add j) = some v)
    (hfit : off + cs.length ≤ cur.length) (h1 : ∀ v ∈ cs, v.oneCell' = true) (B : Nat) (w0 : World) (hb : Below B w0 w) (hBg : B ≤ g)
    (h : ∀ w', Hid (w'.heap[g]? = some (.cells (splice cur off cs).toArray t (0, 0))) → Below B w0 w' → wpList P ops Q rest (a.put dst (goInt cs.length)) w') :
    wpList P ops Q ({ dst := dst, op := .call { callee := .builtin .copy, args := #[d, s], argTypes := #[dT, sT] }, type := type, pos := pos, after := after, guard := none } :: rest) a w :=
  wpList_copy_splice rfl d s dT sT rfl elem hu hsz dp sp dLen dCap sLen sCap hd hs g off cur t hg cs hn hpos hfit h1 B w0 hb hBg h

/-- WHAT THE WALK IS TOLD OF A SLICE OF INTEGERS THAT CAME IN (the shell's own words): it is nil; or it leads to a row of 'cap' cells, the numbers 'zs' (the first 'len' are its elements, the rest its spare room), each fitting its kind. -/
def IsRow (k : IntKind) (w : World) (a : Option Addr) (len cap : Nat) (zs : List Int) : Prop :=
  (a = none ∧ len = 0 ∧ cap = 0 ∧ zs = []) ∨
  ∃ x, a = some x ∧ len ≤ cap ∧ cap ≤ maxLen ∧ zs.length = cap ∧ (∀ i, i < zs.length → w.cell? (x.add i) = some (.int k (zs.getD i 0))) ∧ ∀ n ∈ zs, (Lit.int k n).wf = true

/-- .. as bytes -/
theorem reads_of_row {w : World} {a : Option Addr} {len cap : Nat} {zs : List Int} (h : IsRow .u8 w a len cap zs) : ∃ xs : List UInt8, Reads w (.slice a len cap) xs ∧ xs.length = len ∧ len ≤ maxLen := by
  rcases h with ⟨rfl, rfl, rfl, rfl⟩ | ⟨x, rfl, hl, hm, hz, hcell, hwf⟩
  · exact ⟨[], ⟨none, 0, rfl, fun _ => rfl, fun h => absurd h (by simp)⟩, rfl, by unfold maxLen; omega⟩
  · have hlen : ((zs.take len).map fun z => UInt8.ofNat z.toNat).length = len := by
      rw [List.length_map, List.length_take, hz]; omega
    refine ⟨(zs.take len).map fun z => UInt8.ofNat z.toNat, ⟨some x, cap, by rw [hlen], fun h => by (cases h), fun h0 => ?_⟩, hlen, Nat.le_trans hl hm⟩
    rw [hlen] at h0
    have c0 := hcell 0 (by omega)
    have hx : x = ⟨x.block, x.off, none⟩ := by
      have h1 : w.cell? x = some (.int .u8 (zs.getD 0 0)) := by simpa [Addr.add] using c0
      have := World.cell?_spot h1
      cases x
      simp_all
    refine ⟨x.block, x.off, by rw [← hx], World.block_lt_of_cell? _ _ c0, fun i hi => ?_⟩
    rw [hlen] at hi
    have c1 := hcell i (by omega)
    rw [hx, add_off] at c1
    have hzi : i < zs.length := by omega
    have hb := hwf (zs[i]) (List.getElem_mem hzi)
    have hb2 : 0 ≤ zs[i] ∧ zs[i] ≤ 255 := by
      simpa [Lit.wf, IntKind.min, IntKind.max, IntKind.signed, IntKind.bits] using hb
    rw [c1]
    congr 2
    simp only [List.getD, List.getElem?_eq_getElem hzi, Option.getD_some, List.getElem_map, List.getElem_take]
    rw [UInt8.toNat_ofNat']
    omega

/-- the string of these bytes -/
def bs (xs : List UInt8) : ByteArray := ⟨xs.toArray⟩

theorem Reads.conv {w : World} {a : Option Addr} {n c : Nat} {xs : List UInt8} (h : Reads w (.slice a n c) xs) : (convert 22 9 (.slice a n c)).run Try.prog w = .ok (.string (bs xs)) w := by
  obtain ⟨ao, c', hv, hn, hc⟩ := h
  cases hv
  by_cases h0 : 0 < xs.length
  · obtain ⟨b, off, rfl, _, hcell⟩ := hc h0
    exact run_convert_bytes_back w 22 9 5 ⟨b, off, none⟩ c xs Try.underlying22 Try.underlying5 Try.underlying9 (fun j hj => by rw [add_off]; exact hcell j hj)
  · have hx : xs = [] := List.eq_nil_of_length_eq_zero (by omega)
    subst hx
    cases a with
    | none =>
      rw [run_convert_bytes_string w 22 9 5 _ _ c Try.underlying22 Try.underlying5 Try.underlying9]
      simp [Conv.bytesToString, bs]
      rfl
    | some a => exact run_convert_bytes_back w 22 9 5 a c [] Try.underlying22 Try.underlying5 Try.underlying9 (fun j hj => absurd hj (by simp))

theorem bytesC_any (w : World) (a : Option Addr) (n c : Nat) (hn : n ≤ maxLen) :
    Calls Try.prog 5 #[.slice a n c] w fun e w' => SomeBool e ∧ w = w' := by
  unfold maxLen at hn
  go_enter Try.func5, Try.ntmps5
  go_wp2
  all_goals (go_ret; exact ⟨⟨_, rfl⟩, rfl⟩)

theorem bytesI_any (w : World) (a : Option Addr) (n c : Nat) (i k : Value) (hn : n ≤ maxLen) :
    Calls Try.prog 10 #[.slice a n c, i, k] w fun e w' => SomeBool e ∧ w = w' := by
  unfold maxLen at hn
  go_enter Try.func10, Try.ntmps10
  go_wp2
  all_goals (go_ret; exact ⟨⟨_, rfl⟩, rfl⟩)
end Go.Proofs.Qxb6630438a
