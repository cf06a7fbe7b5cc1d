import Derived.Test.Qxb6630394aRows
import Derived.WalkKit
import Derived.WalkLawsBesides
import Derived.RowKit3
namespace Go.Proofs.Qxb6630394a
open Go.RowKit

/-- WaitsFor, as a plain function: the requester's strength and kind, the holder's -/
def wf (ms mk os ok : Int) : Bool :=
  if ok == 3 then false else if mk == 3 then (ok == 0 || ok == 2) else if mk == 2 || ok == 2 then false else (ms == 1 || os == 1)

set_option maxHeartbeats 1000000 in
theorem waits_any (w : World) (ms mk os ok : Int) : Calls Try.prog 5 #[.agg #[.int .u8 ms, .int .u8 mk], .agg #[.int .u8 os, .int .u8 ok]] w fun e w' => e = .returned (.bool (wf ms mk os ok)) ∧ Below w.heap.size w w' := by
  obtain ⟨r, hr⟩ : ∃ r, Hid (wf ms mk os ok = r) := ⟨_, rfl⟩
  rw [hr.out]
  have hr' := hr.out
  unfold wf at hr'
  clear hr
  cases h1 : (ok == 3)
  all_goals rw [h1] at hr'
  all_goals simp only [Bool.false_eq_true, if_false, if_true] at hr'
  rotate_left
  · subst hr'
    go_enter Try.func5, Try.ntmps5
    go_wp2
    go_ret
    exact ⟨rfl, ((Below.refl _ _).alloc (Nat.le_refl _) _).alloc (by simp) _⟩
  cases h2 : (mk == 3)
  all_goals rw [h2] at hr'
  all_goals simp only [Bool.false_eq_true, if_false, if_true] at hr'
  rotate_left
  · cases h3 : (ok == 0)
    all_goals rw [h3] at hr'
    all_goals simp only [Bool.false_or, Bool.true_or] at hr'
    all_goals subst hr'
    all_goals go_enter Try.func5, Try.ntmps5
    all_goals go_wp2
    all_goals go_ret
    all_goals exact ⟨rfl, ((Below.refl _ _).alloc (Nat.le_refl _) _).alloc (by simp) _⟩
  cases h3 : (mk == 2)
  all_goals rw [h3] at hr'
  all_goals simp only [Bool.false_or, Bool.true_or, if_true] at hr'
  rotate_left
  · subst hr'
    go_enter Try.func5, Try.ntmps5
    go_wp2
    go_ret
    exact ⟨rfl, ((Below.refl _ _).alloc (Nat.le_refl _) _).alloc (by simp) _⟩
  cases h4 : (ok == 2)
  all_goals rw [h4] at hr'
  all_goals simp only [Bool.false_eq_true, if_false, if_true] at hr'
  rotate_left
  · subst hr'
    go_enter Try.func5, Try.ntmps5
    go_wp2
    go_ret
    exact ⟨rfl, ((Below.refl _ _).alloc (Nat.le_refl _) _).alloc (by simp) _⟩
  cases h5 : (ms == 1)
  all_goals rw [h5] at hr'
  all_goals simp only [Bool.false_or, Bool.true_or] at hr'
  all_goals subst hr'
  all_goals go_enter Try.func5, Try.ntmps5
  all_goals go_wp2
  all_goals go_ret
  all_goals exact ⟨rfl, ((Below.refl _ _).alloc (Nat.le_refl _) _).alloc (by simp) _⟩

theorem block_below {w w' : World} {b : Nat} {o : Obj} (h : w.heap[b]? = some o) (hb : Below w.heap.size w w') : w'.heap[b]? = some o := by
  obtain ⟨hlt, _⟩ := Array.getElem?_eq_some_iff.1 h
  rw [hb.block b hlt]; exact h

/-- what the law knows of its two locals, in whatever world behind a call -/
structure Two (w : World) (a0 a1 a2 a3 : Int) (wx : World) : Prop where
  bw : Below w.heap.size w wx
  hm : wx.heap[w.heap.size]? = some (.cells #[.int .u8 a0, .int .u8 a1] 25)
  ho : wx.heap[w.heap.size + 1]? = some (.cells #[.int .u8 a2, .int .u8 a3] 25)

theorem Two.start (w : World) (a0 a1 a2 a3 : Int) : Two w a0 a1 a2 a3 ((w.alloc (.cells #[.int .u8 a0, .int .u8 a1] 25)).alloc (.cells #[.int .u8 a2, .int .u8 a3] 25)) :=
  ⟨((Below.refl _ _).alloc (Nat.le_refl _) _).alloc (by simp) _, heap_alloc2_old _ _ _, heap_alloc2_new _ _ _⟩

theorem Two.call {w wx wy : World} {a0 a1 a2 a3 : Int} (h : Two w a0 a1 a2 a3 wx) (hb : Below wx.heap.size wx wy) : Two w a0 a1 a2 a3 wy :=
  ⟨h.bw.trans (hb.mono h.bw.size), block_below h.hm hb, block_below h.ho hb⟩

theorem Two.m0 {w wx : World} {a0 a1 a2 a3 : Int} (h : Two w a0 a1 a2 a3 wx) : wx.cell? ⟨w.heap.size, 0, none⟩ = some (.int .u8 a0) := by rw [cell_of_row _ _ _ _ _ _ h.hm]; rfl
theorem Two.m1 {w wx : World} {a0 a1 a2 a3 : Int} (h : Two w a0 a1 a2 a3 wx) : wx.cell? ⟨w.heap.size, 1, none⟩ = some (.int .u8 a1) := by rw [cell_of_row _ _ _ _ _ _ h.hm]; rfl
theorem Two.o0 {w wx : World} {a0 a1 a2 a3 : Int} (h : Two w a0 a1 a2 a3 wx) : wx.cell? ⟨w.heap.size + 1, 0, none⟩ = some (.int .u8 a2) := by rw [cell_of_row _ _ _ _ _ _ h.ho]; rfl
theorem Two.o1 {w wx : World} {a0 a1 a2 a3 : Int} (h : Two w a0 a1 a2 a3 wx) : wx.cell? ⟨w.heap.size + 1, 1, none⟩ = some (.int .u8 a3) := by rw [cell_of_row _ _ _ _ _ _ h.ho]; rfl

/-! ### the plain laws -/
theorem law_req (a0 a2 a3 : Int) : (wf a0 0 a2 a3 != (wf a0 1 a2 a3 || wf a0 2 a2 a3)) = false := by
  unfold wf
  cases h1 : (a3 == 3) <;> cases h2 : (a3 == 2) <;> cases h3 : (a0 == 1) <;> cases h4 : (a2 == 1) <;> simp
theorem law_hold (a0 a1 a2 : Int) : (wf a0 a1 a2 0 != (wf a0 a1 a2 1 || wf a0 a1 a2 2)) = false := by
  unfold wf
  cases h1 : (a1 == 3) <;> cases h2 : (a1 == 2) <;> cases h3 : (a0 == 1) <;> cases h4 : (a2 == 1) <;> simp
theorem law_ex1 (a0 a1 a2 a3 : Int) (h : wf a0 a1 a2 a3 = true) : wf 1 a1 a2 a3 = true := by
  unfold wf at h ⊢
  cases h1 : (a3 == 3) <;> cases h2 : (a1 == 3) <;> cases h3 : (a1 == 2) <;> cases h4 : (a3 == 2) <;> simp_all
theorem law_ex2 (a0 a1 a2 a3 : Int) (h : wf a0 a1 a2 a3 = true) : wf a0 a1 1 a3 = true := by
  unfold wf at h ⊢
  cases h1 : (a3 == 3) <;> cases h2 : (a1 == 3) <;> cases h3 : (a1 == 2) <;> cases h4 : (a3 == 2) <;> simp_all
theorem law_rec (a0 a2 : Int) : (wf a0 1 a2 1 != (a0 == 1 || a2 == 1)) = false := by
  unfold wf
  cases h3 : (a0 == 1) <;> cases h4 : (a2 == 1) <;> simp

/-- WaitsFor, its answer named -/
theorem waits_r (w : World) (ms mk os ok : Int) (r : Bool) (hr : Hid (wf ms mk os ok = r)) : Calls Try.prog 5 #[.agg #[.int .u8 ms, .int .u8 mk], .agg #[.int .u8 os, .int .u8 ok]] w fun e w' => e = .returned (.bool r) ∧ Below w.heap.size w w' := by
  rw [← hr.out]
  exact waits_any w ms mk os ok
end Go.Proofs.Qxb6630394a
