import Derived.Below
namespace Go.Proofs.Qxb6630348a

/-! ### the plain law: no Go in sight -/

/-- a hexadecimal digit -/
def hexd (n : Nat) : UInt8 := if n < 10 then UInt8.ofNat (48 + n) else UInt8.ofNat (87 + n)

/-- the canonical escape of one byte -/
def esc1 (c : UInt8) : List UInt8 :=
  if 32 ≤ c.toNat ∧ c.toNat ≠ 34 ∧ c.toNat ≠ 92 then [c]
  else if c.toNat = 34 ∨ c.toNat = 92 then [92, c]
  else if c.toNat = 8 then [92, 98]
  else if c.toNat = 12 then [92, 102]
  else if c.toNat = 10 then [92, 110]
  else if c.toNat = 13 then [92, 114]
  else if c.toNat = 9 then [92, 116]
  else [92, 117, 48, 48, hexd (c.toNat / 16), hexd (c.toNat % 16)]

def esc (l : List UInt8) : List UInt8 := l.flatMap esc1

theorem esc_nil : esc [] = [] := rfl
theorem esc_append (a b : List UInt8) : esc (a ++ b) = esc a ++ esc b := by unfold esc; rw [List.flatMap_append]
theorem esc_one (c : UInt8) : esc [c] = esc1 c := by simp [esc]

theorem esc1_plain {c : UInt8} (h : 32 ≤ c.toNat ∧ c.toNat ≠ 34 ∧ c.toNat ≠ 92) : esc1 c = [c] := by unfold esc1; rw [if_pos h]

theorem esc1_length (c : UInt8) : (esc1 c).length ≤ 6 := by
  unfold esc1
  split
  · simp
  repeat' (split; · simp)
  simp

theorem esc_length : ∀ l : List UInt8, (esc l).length ≤ 6 * l.length
  | [] => by simp [esc]
  | c :: l => by
    have h1 := esc1_length c
    have h2 := esc_length l
    have : esc (c :: l) = esc1 c ++ esc l := by simp [esc]
    rw [this, List.length_append, List.length_cons]
    omega

/-- a run of ordinary bytes is its own escape -/
theorem esc_plain : ∀ l : List UInt8, (∀ c ∈ l, 32 ≤ c.toNat ∧ c.toNat ≠ 34 ∧ c.toNat ≠ 92) → esc l = l
  | [], _ => rfl
  | c :: l, h => by
    have h2 := esc_plain l (fun x hx => h x (by simp [hx]))
    have : esc (c :: l) = esc1 c ++ esc l := by simp [esc]
    rw [this, esc1_plain (h c (by simp)), h2]
    rfl

end Go.Proofs.Qxb6630348a
