import Derived.Test.Qxb6630348aRows
import Derived.Test.Qxb6630348aPlain
import Derived.WalkKit
import Derived.WalkLawsBesides
import Derived.WalkSpells
import Derived.Deep.OwnRows
import Derived.Deep.QuietTactic
import Derived.BigQuiet
import Derived.Laws.CopyOwn
import Derived.Lib.AppendStr
namespace Go.Proofs.Qxb6630348a
open Go.RowKit

/-- bytes as cells -/
def bc (l : List UInt8) : List Value := l.map fun b => Value.int .u8 b.toNat

theorem bc_length (l : List UInt8) : (bc l).length = l.length := by simp [bc]
theorem bc_append (a b : List UInt8) : bc (a ++ b) = bc a ++ bc b := by simp [bc]
theorem bc_oneCell (l : List UInt8) : ∀ u ∈ bc l, u.oneCell' = true := by
  intro u hu
  simp only [bc, List.mem_map] at hu
  obtain ⟨b, _, rfl⟩ := hu
  rfl
theorem bc_get (l : List UInt8) (i : Nat) (h : i < l.length) : (bc l)[i]? = some (.int .u8 l[i].toNat) := by simp [bc, h]

theorem add_off (b o j : Nat) : (⟨b, o, none⟩ : Addr).add j = ⟨b, o + j, none⟩ := by unfold Addr.add; split <;> simp_all

/-- a slice of bytes that can be read in w -/
def Reads (w : World) (v : Value) (xs : List UInt8) : Prop :=
  ∃ (ao : Option Addr) (c : Nat), v = .slice ao xs.length c ∧ (ao = none → xs = []) ∧ (0 < xs.length → ∃ b off, ao = some ⟨b, off, none⟩ ∧ b < w.heap.size ∧ ∀ i (h : i < xs.length), w.cell? ⟨b, off + i, none⟩ = some (.int .u8 xs[i].toNat))

theorem Reads.below {w w' : World} {v : Value} {xs : List UInt8} (h : Reads w v xs) (hb : Below w.heap.size w w') : Reads w' v xs := by
  obtain ⟨ao, c, rfl, hn, hc⟩ := h
  refine ⟨ao, c, rfl, hn, fun h0 => ?_⟩
  obtain ⟨b, off, rfl, hlt, hcell⟩ := hc h0
  exact ⟨b, off, rfl, Nat.lt_of_lt_of_le hlt hb.size, fun i hi => by rw [hb.cell (p := ⟨b, off + i, none⟩) hlt]; exact hcell i hi⟩

/-- a slice of bytes that the call has made -/
def Owns (w : World) (base : Nat) (v : Value) (xs : List UInt8) : Prop := w.ownsRow base 5 1 v xs.length (bc xs)

theorem Owns.reads {w : World} {base : Nat} {v : Value} {xs : List UInt8} (h : Owns w base v xs) : Reads w v xs := by
  rcases h.2 with ⟨rfl, h0⟩ | ⟨g, cap, cur, rfl, hb, hh, _⟩
  · have : xs = [] := List.eq_nil_of_length_eq_zero h0
    subst this
    exact ⟨none, 0, rfl, fun _ => rfl, fun h => absurd h (by simp)⟩
  · refine ⟨some ⟨g, 0, none⟩, cap, rfl, fun h => by (cases h), fun _ => ⟨g, 0, rfl, (Array.getElem?_eq_some_iff.1 hh).1, fun i hi => ?_⟩⟩
    have := World.ownsRow.cellAt h i (by omega)
    rw [bc_get _ _ hi] at this
    rw [Nat.zero_add]; exact this

theorem Owns.below {w w' : World} {base B : Nat} {v : Value} {xs : List UInt8} (h : Owns w base v xs) (hb : Below B w w') (hB : ∀ k, v.ownBlock = some k → k < B) : Owns w' base v xs := by
  obtain ⟨h1, h2⟩ := h
  refine ⟨h1, ?_⟩
  rcases h2 with h2 | ⟨g, cap, cur, rfl, hg, hh, r⟩
  · exact Or.inl h2
  · exact Or.inr ⟨g, cap, cur, rfl, hg, by rw [hb.block g (hB g rfl)]; exact hh, r⟩

theorem Owns.nil (w : World) (base : Nat) : Owns w base (.slice none 0 0) [] := World.ownsRow_nil w base 5 1

theorem Try.info5 : (Try.prog.info? 5).map (fun i => (i.zero, i.size, i.bytes)) = some (some (.int .u8 0), 1, 1) := by kernel_rfl

def SomeBool (e : Ending) : Prop := ∃ b : Bool, e = .returned (.bool b)

theorem bytesS_any (w : World) (a : Option Addr) (n c : Nat) (s : ByteArray) (k : Value) (hn : n ≤ maxLen) (hs : s.size ≤ maxLen) :
    Calls Try.prog 11 #[.slice a n c, .string s, k] w fun e w' => SomeBool e ∧ w = w' := by
  unfold maxLen at hn hs
  go_enter Try.func11, Try.ntmps11
  go_wp2
  all_goals (go_ret; exact ⟨⟨_, rfl⟩, rfl⟩)

theorem bytesD_any (w : World) (a : Option Addr) (n c : Nat) (s : ByteArray) (hn : n ≤ maxLen) (hs : s.size ≤ maxLen) :
    Calls Try.prog 5 #[.slice a n c, .string s] w fun e w' => SomeBool e ∧ w = w' := by
  unfold maxLen at hn hs
  go_enter Try.func5, Try.ntmps5
  go_wp2
  all_goals (go_ret; exact ⟨⟨_, rfl⟩, rfl⟩)

set_option maxHeartbeats 400000 in
theorem same_any (w : World) (va vb : Value) (xs : List UInt8) (ha : Reads w va xs) (hb : Reads w vb xs) (hl : xs.length ≤ 1000000000000) :
    Calls Try.prog 8 #[va, vb] w fun e w' => e = .returned (.bool true) ∧ ∃ n, w' = w.drewN n := by
  obtain ⟨aa, ca, rfl, _, hca⟩ := ha
  obtain ⟨ab, cb, rfl, _, hcb⟩ := hb
  obtain ⟨n, hn⟩ : ∃ n, Hid (xs.length = n) := ⟨_, rfl⟩
  rw [hn.out] at hl ⊢
  have hne : ((n : Int) != (n : Int)) = false := by simp
  go_enter Try.func8, Try.ntmps8
  go_wp2
  go_loopw [5] (fun i wr => ∃ k : Nat, k ≤ n ∧ i = .int .i64 k ∧ ∃ m, wr = w.drewN m) (fun i _ => n - (intOf i).toNat)
  case atStart => exact ⟨0, Nat.zero_le _, rfl, 0, rfl⟩
  case round =>
    obtain ⟨k, hk, rfl, m, rfl⟩ := hrel
    by_cases hlt : k < n
    · have hlt' : k < xs.length := by rw [hn.out]; exact hlt
      obtain ⟨b1, o1, ha1, _, h1⟩ := hca (by omega)
      obtain ⟨b2, o2, ha2, _, h2⟩ := hcb (by omega)
      subst ha1 ha2
      have c1 := h1 k hlt'
      have c2 := h2 k hlt'
      have hlti : (k : Int) < (n : Int) := by omega
      have hne2 : (((xs[k]).toNat : Int) != ((xs[k]).toNat : Int)) = false := by simp
      clear h1 h2 hca hcb
      generalize (xs[k]).toNat = x at *
      go_wp2
      go_quiet (fail)
      go_wp2
      go_roundw
      case rel => exact ⟨k + 1, by omega, by go_num, _, rfl⟩
      case measure => simp [intOf]; omega
    · go_wp2
      go_ret
      exact ⟨rfl, _, rfl⟩

theorem str_get (s : ByteArray) (k : Nat) (h : k < s.size) : s.data.toList[k]'(by simpa using h) = s[k] := rfl

set_option maxHeartbeats 400000 in
theorem sameStr_any (w : World) (va : Value) (s : ByteArray) (ha : Reads w va s.data.toList) (hl : s.size ≤ 1000000000000) :
    Calls Try.prog 10 #[va, .string s] w fun e w' => e = .returned (.bool true) ∧ ∃ n, w' = w.drewN n := by
  obtain ⟨aa, ca, rfl, _, hca⟩ := ha
  have hlen : s.data.toList.length = s.size := by simp
  rw [hlen]
  have hne : ((s.size : Int) != (s.size : Int)) = false := by simp
  go_enter Try.func10, Try.ntmps10
  go_wp2
  go_loopw [5] (fun i wr => ∃ k : Nat, k ≤ s.size ∧ i = .int .i64 k ∧ ∃ m, wr = w.drewN m) (fun i _ => s.size - (intOf i).toNat)
  case atStart => exact ⟨0, Nat.zero_le _, rfl, 0, rfl⟩
  case round =>
    obtain ⟨k, hk, rfl, m, rfl⟩ := hrel
    by_cases hlt : k < s.size
    · have hlt' : k < s.data.toList.length := by rw [hlen]; exact hlt
      obtain ⟨b1, o1, ha1, _, h1⟩ := hca (by omega)
      subst ha1
      have c1 := h1 k hlt'
      have hlti : (k : Int) < (s.size : Int) := by omega
      have hne2 : (((s[k]'hlt).toNat : Int) != ((s[k]'hlt).toNat : Int)) = false := by simp
      have c2 : w.cell? ⟨b1, o1 + k, none⟩ = some (.int .u8 (s[k]'hlt).toNat) := c1
      clear h1 hca c1 hlen
      go_wp2
      go_quiet (fail)
      go_wp2
      go_roundw
      case rel => exact ⟨k + 1, by omega, by go_num, _, rfl⟩
      case measure => simp [intOf]; omega
    · go_wp2
      go_ret
      exact ⟨rfl, _, rfl⟩

/-- what kind of byte -/
theorem byte_kinds (x : Nat) : (32 ≤ x ∧ x ≠ 34 ∧ x ≠ 92) ∨ x = 34 ∨ x = 92 ∨ x = 8 ∨ x = 12 ∨ x = 10 ∨ x = 13 ∨ x = 9 ∨ (x < 32 ∧ x ≠ 8 ∧ x ≠ 12 ∧ x ≠ 10 ∧ x ≠ 13 ∧ x ≠ 9) := by omega

set_option maxHeartbeats 1000000 in
theorem escWidth_any (w : World) (c : UInt8) : Calls Try.prog 12 #[.int .u8 c.toNat] w fun e w' => e = .returned (.int .i64 (esc1 c).length) ∧ w = w' := by
  obtain ⟨x, hx⟩ : ∃ x : Nat, Hid (c.toNat = x) := ⟨_, rfl⟩
  obtain ⟨k, hk⟩ : ∃ k : Int, Hid (((esc1 c).length : Int) = k) := ⟨_, rfl⟩
  rw [hx.out, hk.out]
  have hk' := hk.out
  unfold esc1 at hk'
  rw [hx.out] at hk'
  rcases byte_kinds x with h | h | h | h | h | h | h | h | h
  · rw [if_pos h] at hk'
    obtain ⟨h1, h2, h3⟩ := h
    have e1 : ((x : Int) != 34) = true := by rw [bne_iff_ne]; omega
    have e2 : ((x : Int) != 92) = true := by rw [bne_iff_ne]; omega
    have h4 : (32 : Int) ≤ (x : Int) := by omega
    have hk2 : k = 1 := by rw [← hk']; rfl
    clear hk' hk hx h2 h3
    subst hk2
    go_enter Try.func12, Try.ntmps12
    go_wp2
    go_ret
    exact ⟨rfl, rfl⟩
  · subst h
    have hk2 : k = 2 := by rw [← hk']; rfl
    clear hk' hk hx
    subst hk2
    go_enter Try.func12, Try.ntmps12
    go_wp2
    go_ret
    exact ⟨rfl, rfl⟩
  · subst h
    have hk2 : k = 2 := by rw [← hk']; rfl
    clear hk' hk hx
    subst hk2
    go_enter Try.func12, Try.ntmps12
    go_wp2
    go_ret
    exact ⟨rfl, rfl⟩
  · subst h
    have hk2 : k = 2 := by rw [← hk']; rfl
    clear hk' hk hx
    subst hk2
    go_enter Try.func12, Try.ntmps12
    go_wp2
    go_ret
    exact ⟨rfl, rfl⟩
  · subst h
    have hk2 : k = 2 := by rw [← hk']; rfl
    clear hk' hk hx
    subst hk2
    go_enter Try.func12, Try.ntmps12
    go_wp2
    go_ret
    exact ⟨rfl, rfl⟩
  · subst h
    have hk2 : k = 2 := by rw [← hk']; rfl
    clear hk' hk hx
    subst hk2
    go_enter Try.func12, Try.ntmps12
    go_wp2
    go_ret
    exact ⟨rfl, rfl⟩
  · subst h
    have hk2 : k = 2 := by rw [← hk']; rfl
    clear hk' hk hx
    subst hk2
    go_enter Try.func12, Try.ntmps12
    go_wp2
    go_ret
    exact ⟨rfl, rfl⟩
  · subst h
    have hk2 : k = 2 := by rw [← hk']; rfl
    clear hk' hk hx
    subst hk2
    go_enter Try.func12, Try.ntmps12
    go_wp2
    go_ret
    exact ⟨rfl, rfl⟩
  · obtain ⟨h0, h1, h2, h3, h4, h5⟩ := h
    rw [if_neg (by omega), if_neg (by omega), if_neg h1, if_neg h2, if_neg h3, if_neg h4, if_neg h5] at hk'
    have hk2 : k = 6 := by rw [← hk']; rfl
    have e0 : ((x : Int) == 34) = false := beq_eq_false_iff_ne.2 (by omega)
    have e1 : ((x : Int) == 92) = false := beq_eq_false_iff_ne.2 (by omega)
    have e2 : ((x : Int) == 8) = false := beq_eq_false_iff_ne.2 (by omega)
    have e3 : ((x : Int) == 9) = false := beq_eq_false_iff_ne.2 (by omega)
    have e4 : ((x : Int) == 10) = false := beq_eq_false_iff_ne.2 (by omega)
    have e5 : ((x : Int) == 12) = false := beq_eq_false_iff_ne.2 (by omega)
    have e6 : ((x : Int) == 13) = false := beq_eq_false_iff_ne.2 (by omega)
    have h6 : (x : Int) < 32 := by omega
    clear hk' hk hx h1 h2 h3 h4 h5
    subst hk2
    go_enter Try.func12, Try.ntmps12
    go_wp2
    go_ret
    exact ⟨rfl, rfl⟩
end Go.Proofs.Qxb6630348a
