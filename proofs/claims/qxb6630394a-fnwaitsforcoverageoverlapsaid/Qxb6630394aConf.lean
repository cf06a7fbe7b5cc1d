import Derived.Test.Qxb6630394aWaits
namespace Go.Proofs.Qxb6630394a
open Go.RowKit

/-- coversRecord and coversGap, plain -/
def cr (k : Int) : Bool := k != 2 && k != 3
def cg (k : Int) : Bool := k == 0 || k == 2

theorem cr_any (w : World) (k : Int) (r : Bool) (hr : Hid (cr k = r)) : Calls Try.prog 7 #[.int .u8 k] w fun e w' => e = .returned (.bool r) ∧ w' = w := by
  have hr' := hr.out
  clear hr
  unfold cr at hr'
  cases h1 : (k != 2)
  all_goals rw [h1] at hr'
  all_goals simp only [Bool.true_and, Bool.false_and] at hr'
  all_goals subst hr'
  all_goals go_enter Try.func7, Try.ntmps7
  all_goals go_wp2
  all_goals go_ret
  all_goals exact ⟨rfl, rfl⟩

theorem cg_any (w : World) (k : Int) (r : Bool) (hr : Hid (cg k = r)) : Calls Try.prog 8 #[.int .u8 k] w fun e w' => e = .returned (.bool r) ∧ w' = w := by
  have hr' := hr.out
  clear hr
  unfold cg at hr'
  cases h1 : (k == 0)
  all_goals rw [h1] at hr'
  all_goals simp only [Bool.false_or, Bool.true_or] at hr'
  all_goals subst hr'
  all_goals go_enter Try.func8, Try.ntmps8
  all_goals go_wp2
  all_goals go_ret
  all_goals exact ⟨rfl, rfl⟩

theorem wf_conf (ms mk os ok : Int) : wf ms mk os ok = ((cr mk && (cr ok && (ms == 1 || os == 1))) || ((mk == 3) && cg ok)) := by
  unfold wf cr cg
  simp only [bne]
  cases h1 : (ok == 3) <;> cases h2 : (mk == 3) <;> cases h3 : (mk == 2) <;> cases h4 : (ok == 2) <;> cases h5 : (ok == 0) <;> simp_all

theorem wf_turn (a0 a1 a2 a3 : Int) (h1 : (a1 == 3) = false) (h3 : (a3 == 3) = false) : wf a0 a1 a2 a3 = wf a2 a3 a0 a1 := by
  unfold wf
  rw [h1, h3]
  cases h4 : (a1 == 2) <;> cases h5 : (a3 == 2) <;> cases h6 : (a0 == 1) <;> cases h7 : (a2 == 1) <;> rfl

set_option maxHeartbeats 2000000 in
theorem conf_core (w : World) (ms mk os ok : Int) (c1 c2 m g o r : Bool) (hc1 : Hid (cr mk = c1)) (hc2 : Hid (cr ok = c2)) (hm : (ms == 1) = m) (ho : (os == 1) = o) (hg : Hid (cg ok = g)) (k3 : Bool) (hk : (mk == 3) = k3)
    (hr : ((c1 && (c2 && (m || o))) || (k3 && g)) = r) :
    Calls Try.prog 6 #[.int .u8 ms, .int .u8 mk, .int .u8 os, .int .u8 ok] w fun e w' => e = .returned (.bool r) ∧ w' = w := by
  subst hr
  cases c1
  · cases k3
    · go_enter Try.func6, Try.ntmps6
      go_wp2_with fail
      refine (cr_any _ _ _ hc1).mono ?_
      rintro e w1 ⟨rfl, rfl⟩
      go_wp2_with fail
      go_ret
      exact ⟨rfl, rfl⟩
    · go_enter Try.func6, Try.ntmps6
      go_wp2_with fail
      refine (cr_any _ _ _ hc1).mono ?_
      rintro e w1 ⟨rfl, rfl⟩
      go_wp2_with fail
      refine (cg_any _ _ _ hg).mono ?_
      rintro e w1 ⟨rfl, rfl⟩
      go_wp2_with fail
      go_ret
      exact ⟨rfl, rfl⟩
  · cases c2 <;> cases m <;> cases o <;> cases k3
    all_goals
      go_enter Try.func6, Try.ntmps6
      go_wp2_with fail
      refine (cr_any _ _ _ hc1).mono ?_
      rintro e w1 ⟨rfl, rfl⟩
      go_wp2_with fail
      refine (cr_any _ _ _ hc2).mono ?_
      rintro e w1 ⟨rfl, rfl⟩
      go_wp2_with fail
      try (refine (cg_any _ _ _ hg).mono ?_; rintro e w1 ⟨rfl, rfl⟩; go_wp2_with fail)
      go_ret
      exact ⟨rfl, rfl⟩

/-- the law's own reading of the rule is WaitsFor's -/
theorem conf_r (w : World) (ms mk os ok : Int) (r : Bool) (hr : Hid (wf ms mk os ok = r)) : Calls Try.prog 6 #[.int .u8 ms, .int .u8 mk, .int .u8 os, .int .u8 ok] w fun e w' => e = .returned (.bool r) ∧ w' = w :=
  conf_core w ms mk os ok _ _ _ _ _ r (by unfold Hid; rfl) (by unfold Hid; rfl) rfl rfl (by unfold Hid; rfl) _ rfl ((wf_conf ms mk os ok).symm.trans hr.out)
end Go.Proofs.Qxb6630394a
