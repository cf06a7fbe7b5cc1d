import Derived.Test.Qxb6630305aCnt
namespace Go.Proofs.Qxb6630305a
open Go.RowKit

/-! ### plain laws on sums that wrap -/
theorem wrap64_range (x : Int) : -9223372036854775808 ≤ wrap64 x ∧ wrap64 x ≤ 9223372036854775807 := by
  unfold wrap64; omega

theorem wrap64_of_range {x : Int} (h : -9223372036854775808 ≤ x ∧ x ≤ 9223372036854775807) : wrap64 x = x := by
  unfold wrap64; omega

theorem wrap64_add_left (x y : Int) : wrap64 (wrap64 x + y) = wrap64 (x + y) := by
  unfold wrap64; omega

theorem wrap64_add_right (x y : Int) : wrap64 (x + wrap64 y) = wrap64 (x + y) := by
  unfold wrap64; omega

theorem sumTo_range (c : Nat → Int) (n : Nat) : -9223372036854775808 ≤ sumTo c n ∧ sumTo c n ≤ 9223372036854775807 := by
  cases n with
  | zero => simp [sumTo]
  | succ n => exact wrap64_range _

theorem sumTo_split (c : Nat → Int) (k : Nat) : ∀ m, sumTo c (k + m) = wrap64 (sumTo c k + sumTo (fun i => c (k + i)) m)
  | 0 => by simp [sumTo, wrap64_of_range (sumTo_range c k)]
  | m + 1 => by
    show wrap64 (sumTo c (k + m) + c (k + m)) = wrap64 (sumTo c k + wrap64 (sumTo (fun i => c (k + i)) m + c (k + m)))
    rw [sumTo_split c k m, wrap64_add_left, wrap64_add_right, Int.add_assoc]

theorem anyTo_split (r : Nat → Bool) (k : Nat) : ∀ m, anyTo r (k + m) = (anyTo r k || anyTo (fun i => r (k + i)) m)
  | 0 => by simp [anyTo]
  | m + 1 => by
    show (anyTo r (k + m) || r (k + m)) = (anyTo r k || (anyTo (fun i => r (k + i)) m || r (k + m)))
    rw [anyTo_split r k m, Bool.or_assoc]

/-- two figures summed -/
theorem sumTo_two (c : Nat → Int) : sumTo c 2 = wrap64 (wrap64 (0 + c 0) + c 1) := rfl

end Go.Proofs.Qxb6630305a
