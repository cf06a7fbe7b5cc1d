import Derived.Test.Qxb6630394aConf
namespace Go.Proofs.Qxb6630394a
open Go.RowKit

set_option maxHeartbeats 8000000 in
theorem cover_core (w : World) (a0 a1 a2 a3 : Int) (v u n1 n3 : Bool) (h1 : Hid (wf a0 a1 a2 a3 = v)) (h2 : Hid (wf a2 a3 a0 a1 = u)) (hn1 : (a1 != 3) = n1) (hn3 : (a3 != 3) = n3)
    (hs : n1 = true → n3 = true → v = u) :
    Calls Try.prog 3 #[.int .u8 a0, .int .u8 a1, .int .u8 a2, .int .u8 a3] w fun e w' => e = .returned (.bool true) ∧ Below w.heap.size w w' := by
  have T := Two.start w a0 a1 a2 a3
  cases n1 <;> cases n3
  all_goals
    try (have hy := hs rfl rfl; subst hy)
    clear hs
    go_enter Try.func3, Try.ntmps3
    go_wp2_with fail
    refine (waits_r _ _ _ _ _ _ h1).mono ?_
    rintro e w1 ⟨rfl, hb1⟩
    have T := T.call hb1
    clear hb1
    have t1 := T.m0
    have t2 := T.m1
    have t3 := T.o0
    have t4 := T.o1
    go_wp2_with fail
    clear t1 t2 t3 t4
    refine (waits_r _ _ _ _ _ _ h2).mono ?_
    rintro e w2 ⟨rfl, hb1⟩
    have T := T.call hb1
    clear hb1
    go_wp2_with fail
    refine (conf_r _ _ _ _ _ _ h1).mono ?_
    rintro e w3 ⟨rfl, rfl⟩
    go_wp2_with fail
    refine (conf_r _ _ _ _ _ _ h2).mono ?_
    rintro e w4 ⟨rfl, rfl⟩
    go_wp2_with fail
    go_ret
    exact ⟨rfl, T.bw⟩

theorem cover_walk (w : World) (a0 a1 a2 a3 : Int) :
    Calls Try.prog 3 #[.int .u8 a0, .int .u8 a1, .int .u8 a2, .int .u8 a3] w fun e w' => e = .returned (.bool true) ∧ Below w.heap.size w w' := by
  refine cover_core w a0 a1 a2 a3 _ _ _ _ (by unfold Hid; rfl) (by unfold Hid; rfl) rfl rfl ?_
  intro h1 h3
  exact wf_turn _ _ _ _ (by simpa [bne] using h1) (by simpa [bne] using h3)
end Go.Proofs.Qxb6630394a
