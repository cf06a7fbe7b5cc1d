import Derived.Test.Qxb6630438aBase
namespace Go.Proofs.Qxb6630438a
open Go.RowKit
set_option linter.unusedSimpArgs false

/-- the spellings of true, and of false -/
def pv (xs : List UInt8) : Bool := xs == [116] || xs == [84] || xs == [116, 114, 117, 101] || xs == [84, 114, 117, 101] || xs == [84, 82, 85, 69]
def pf (xs : List UInt8) : Bool := xs == [102] || xs == [70] || xs == [102, 97, 108, 115, 101] || xs == [70, 97, 108, 115, 101] || xs == [70, 65, 76, 83, 69]

theorem bs_toList (xs : List UInt8) : (bs xs).toList = xs := ByteArray.toList_mk xs

set_option maxHeartbeats 2000000 in
theorem parse_core (w : World) (a : Option Addr) (n c : Nat) (s : ByteArray) (hc : (convert 22 9 (.slice a n c)).run Try.prog w = .ok (.string s) w) (v ok : Bool)
    (hv : Hid ((s.toList == [116] || s.toList == [84] || s.toList == [116, 114, 117, 101] || s.toList == [84, 114, 117, 101] || s.toList == [84, 82, 85, 69]) = v))
    (hok : Hid ((v || (s.toList == [102] || s.toList == [70] || s.toList == [102, 97, 108, 115, 101] || s.toList == [70, 97, 108, 115, 101] || s.toList == [70, 65, 76, 83, 69])) = ok)) :
    Calls Try.prog 8 #[.slice a n c] w fun e w' => e = .returned (.tuple #[.bool v, .bool ok]) ∧ w' = w := by
  cases t1 : (s.toList == [116])
  rotate_left
  · have hv1 := hv.out
    have hk1 := hok.out
    clear hv hok
    simp only [t1, Bool.false_or, Bool.true_or, Bool.or_true, Bool.or_false] at hv1
    subst hv1
    simp only [t1, Bool.false_or, Bool.true_or, Bool.or_true, Bool.or_false] at hk1
    subst hk1
    go_enter Try.func8, Try.ntmps8
    go_wp2_with fail
    go_ret2
    exact ⟨rfl, rfl⟩
  cases t2 : (s.toList == [84])
  rotate_left
  · have hv1 := hv.out
    have hk1 := hok.out
    clear hv hok
    simp only [t1, t2, Bool.false_or, Bool.true_or, Bool.or_true, Bool.or_false] at hv1
    subst hv1
    simp only [t1, t2, Bool.false_or, Bool.true_or, Bool.or_true, Bool.or_false] at hk1
    subst hk1
    go_enter Try.func8, Try.ntmps8
    go_wp2_with fail
    go_ret2
    exact ⟨rfl, rfl⟩
  cases t3 : (s.toList == [116, 114, 117, 101])
  rotate_left
  · have hv1 := hv.out
    have hk1 := hok.out
    clear hv hok
    simp only [t1, t2, t3, Bool.false_or, Bool.true_or, Bool.or_true, Bool.or_false] at hv1
    subst hv1
    simp only [t1, t2, t3, Bool.false_or, Bool.true_or, Bool.or_true, Bool.or_false] at hk1
    subst hk1
    go_enter Try.func8, Try.ntmps8
    go_wp2_with fail
    go_ret2
    exact ⟨rfl, rfl⟩
  cases t4 : (s.toList == [84, 114, 117, 101])
  rotate_left
  · have hv1 := hv.out
    have hk1 := hok.out
    clear hv hok
    simp only [t1, t2, t3, t4, Bool.false_or, Bool.true_or, Bool.or_true, Bool.or_false] at hv1
    subst hv1
    simp only [t1, t2, t3, t4, Bool.false_or, Bool.true_or, Bool.or_true, Bool.or_false] at hk1
    subst hk1
    go_enter Try.func8, Try.ntmps8
    go_wp2_with fail
    go_ret2
    exact ⟨rfl, rfl⟩
  cases t5 : (s.toList == [84, 82, 85, 69])
  rotate_left
  · have hv1 := hv.out
    have hk1 := hok.out
    clear hv hok
    simp only [t1, t2, t3, t4, t5, Bool.false_or, Bool.true_or, Bool.or_true, Bool.or_false] at hv1
    subst hv1
    simp only [t1, t2, t3, t4, t5, Bool.false_or, Bool.true_or, Bool.or_true, Bool.or_false] at hk1
    subst hk1
    go_enter Try.func8, Try.ntmps8
    go_wp2_with fail
    go_ret2
    exact ⟨rfl, rfl⟩
  cases t6 : (s.toList == [102])
  rotate_left
  · have hv1 := hv.out
    have hk1 := hok.out
    clear hv hok
    simp only [t1, t2, t3, t4, t5, t6, Bool.false_or, Bool.true_or, Bool.or_true, Bool.or_false] at hv1
    subst hv1
    simp only [t1, t2, t3, t4, t5, t6, Bool.false_or, Bool.true_or, Bool.or_true, Bool.or_false] at hk1
    subst hk1
    go_enter Try.func8, Try.ntmps8
    go_wp2_with fail
    go_ret2
    exact ⟨rfl, rfl⟩
  cases t7 : (s.toList == [70])
  rotate_left
  · have hv1 := hv.out
    have hk1 := hok.out
    clear hv hok
    simp only [t1, t2, t3, t4, t5, t6, t7, Bool.false_or, Bool.true_or, Bool.or_true, Bool.or_false] at hv1
    subst hv1
    simp only [t1, t2, t3, t4, t5, t6, t7, Bool.false_or, Bool.true_or, Bool.or_true, Bool.or_false] at hk1
    subst hk1
    go_enter Try.func8, Try.ntmps8
    go_wp2_with fail
    go_ret2
    exact ⟨rfl, rfl⟩
  cases t8 : (s.toList == [102, 97, 108, 115, 101])
  rotate_left
  · have hv1 := hv.out
    have hk1 := hok.out
    clear hv hok
    simp only [t1, t2, t3, t4, t5, t6, t7, t8, Bool.false_or, Bool.true_or, Bool.or_true, Bool.or_false] at hv1
    subst hv1
    simp only [t1, t2, t3, t4, t5, t6, t7, t8, Bool.false_or, Bool.true_or, Bool.or_true, Bool.or_false] at hk1
    subst hk1
    go_enter Try.func8, Try.ntmps8
    go_wp2_with fail
    go_ret2
    exact ⟨rfl, rfl⟩
  cases t9 : (s.toList == [70, 97, 108, 115, 101])
  rotate_left
  · have hv1 := hv.out
    have hk1 := hok.out
    clear hv hok
    simp only [t1, t2, t3, t4, t5, t6, t7, t8, t9, Bool.false_or, Bool.true_or, Bool.or_true, Bool.or_false] at hv1
    subst hv1
    simp only [t1, t2, t3, t4, t5, t6, t7, t8, t9, Bool.false_or, Bool.true_or, Bool.or_true, Bool.or_false] at hk1
    subst hk1
    go_enter Try.func8, Try.ntmps8
    go_wp2_with fail
    go_ret2
    exact ⟨rfl, rfl⟩
  cases t10 : (s.toList == [70, 65, 76, 83, 69])
  rotate_left
  · have hv1 := hv.out
    have hk1 := hok.out
    clear hv hok
    simp only [t1, t2, t3, t4, t5, t6, t7, t8, t9, t10, Bool.false_or, Bool.true_or, Bool.or_true, Bool.or_false] at hv1
    subst hv1
    simp only [t1, t2, t3, t4, t5, t6, t7, t8, t9, t10, Bool.false_or, Bool.true_or, Bool.or_true, Bool.or_false] at hk1
    subst hk1
    go_enter Try.func8, Try.ntmps8
    go_wp2_with fail
    go_ret2
    exact ⟨rfl, rfl⟩
  have hv1 := hv.out
  have hk1 := hok.out
  clear hv hok
  simp only [t1, t2, t3, t4, t5, t6, t7, t8, t9, t10, Bool.false_or] at hv1
  subst hv1
  simp only [t1, t2, t3, t4, t5, t6, t7, t8, t9, t10, Bool.false_or] at hk1
  subst hk1
  go_enter Try.func8, Try.ntmps8
  go_wp2_with fail
  go_ret2
  exact ⟨rfl, rfl⟩

theorem parse_any (w : World) (v : Value) (xs : List UInt8) (h : Reads w v xs) (b ok : Bool) (hb : Hid (pv xs = b)) (hok : Hid ((b || pf xs) = ok)) :
    Calls Try.prog 8 #[v] w fun e w' => e = .returned (.tuple #[.bool b, .bool ok]) ∧ w' = w := by
  have h' := h
  obtain ⟨ao, c, rfl, _⟩ := h'
  exact parse_core w _ _ _ (bs xs) h.conv b ok (by rw [bs_toList]; exact hb) (by rw [bs_toList]; exact hok)

/-- a folded word -/
def word (xs : List UInt8) : Bool := xs == [116] || xs == [116, 114, 117, 101] || xs == [102] || xs == [102, 97, 108, 115, 101]

set_option maxHeartbeats 1000000 in
theorem word_core (w : World) (s : ByteArray) (r : Bool) (hr : Hid ((s.toList == [116] || s.toList == [116, 114, 117, 101] || s.toList == [102] || s.toList == [102, 97, 108, 115, 101]) = r)) :
    Calls Try.prog 9 #[.string s] w fun e w' => e = .returned (.bool r) ∧ w' = w := by
  have hr1 := hr.out
  clear hr
  cases t1 : (s.toList == [116]) <;> cases t2 : (s.toList == [116, 114, 117, 101]) <;> cases t3 : (s.toList == [102]) <;> cases t4 : (s.toList == [102, 97, 108, 115, 101])
  all_goals
    simp only [t1, t2, t3, t4, Bool.false_or, Bool.true_or, Bool.or_true, Bool.or_false] at hr1
    subst hr1
    go_enter Try.func9, Try.ntmps9
    go_wp2_with fail
    go_ret
    exact ⟨rfl, rfl⟩

theorem word_any (w : World) (xs : List UInt8) (r : Bool) (hr : Hid (word xs = r)) : Calls Try.prog 9 #[.string (bs xs)] w fun e w' => e = .returned (.bool r) ∧ w' = w :=
  word_core w _ r (by rw [bs_toList]; exact hr)
end Go.Proofs.Qxb6630438a
