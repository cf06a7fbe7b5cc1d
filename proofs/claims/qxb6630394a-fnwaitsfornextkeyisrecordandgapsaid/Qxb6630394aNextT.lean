import Derived.Test.Qxb6630394aWaits
namespace Go.Proofs.Qxb6630394a
open Go.RowKit

set_option maxHeartbeats 8000000 in
theorem nextkey_T (w : World) (a0 a1 a2 a3 : Int) (r2 r3 s2 s3 e0 e2 : Bool)
    (h1 : Hid (wf a0 0 a2 a3 = (r2 || r3))) (h2 : Hid (wf a0 1 a2 a3 = r2)) (h3 : Hid (wf a0 2 a2 a3 = r3))
    (h4 : Hid (wf a0 a1 a2 0 = (s2 || s3))) (h5 : Hid (wf a0 a1 a2 1 = s2)) (h6 : Hid (wf a0 a1 a2 2 = s3))
    (h7 : Hid (wf a0 a1 a2 a3 = true)) (h8 : Hid (wf 1 a1 a2 a3 = true)) (h9 : Hid (wf a0 a1 1 a3 = true)) (h10 : Hid (wf a0 1 a2 1 = (e0 || e2)))
    (he0 : (a0 == 1) = e0) (he2 : (a2 == 1) = e2) :
    Calls Try.prog 4 #[.int .u8 a0, .int .u8 a1, .int .u8 a2, .int .u8 a3] w fun e w' => e = .returned (.bool true) ∧ Below w.heap.size w w' := by
  have T := Two.start w a0 a1 a2 a3
  cases r2 <;> cases s2 <;> cases e0
  all_goals
    simp only [Bool.false_or, Bool.true_or] at h1 h4 h10
    go_enter Try.func4, Try.ntmps4
    go_wp2_with fail
    refine (waits_r _ _ _ _ _ _ h1).mono ?_
    rintro e w1 ⟨rfl, hb1⟩
    have T := T.call hb1
    clear hb1
    have t1 := T.m0
    have t2 := T.m1
    have t3 := T.o0
    have t4 := T.o1
    go_wp2_with fail
    clear t1 t2 t3 t4
    refine (waits_r _ _ _ _ _ _ h2).mono ?_
    rintro e w2 ⟨rfl, hb1⟩
    have T := T.call hb1
    clear hb1
    have t1 := T.m0
    have t2 := T.m1
    have t3 := T.o0
    have t4 := T.o1
    go_wp2_with fail
    clear t1 t2 t3 t4
    refine (waits_r _ _ _ _ _ _ h3).mono ?_
    rintro e w3 ⟨rfl, hb1⟩
    have T := T.call hb1
    clear hb1
    have t1 := T.m0
    have t2 := T.m1
    have t3 := T.o0
    have t4 := T.o1
    go_wp2_with fail
    clear t1 t2 t3 t4
    refine (waits_r _ _ _ _ _ _ h4).mono ?_
    rintro e w4 ⟨rfl, hb1⟩
    have T := T.call hb1
    clear hb1
    have t1 := T.m0
    have t2 := T.m1
    have t3 := T.o0
    have t4 := T.o1
    go_wp2_with fail
    clear t1 t2 t3 t4
    refine (waits_r _ _ _ _ _ _ h5).mono ?_
    rintro e w5 ⟨rfl, hb1⟩
    have T := T.call hb1
    clear hb1
    have t1 := T.m0
    have t2 := T.m1
    have t3 := T.o0
    have t4 := T.o1
    go_wp2_with fail
    clear t1 t2 t3 t4
    refine (waits_r _ _ _ _ _ _ h6).mono ?_
    rintro e w6 ⟨rfl, hb1⟩
    have T := T.call hb1
    clear hb1
    have t1 := T.m0
    have t2 := T.m1
    have t3 := T.o0
    have t4 := T.o1
    go_wp2_with fail
    clear t1 t2 t3 t4
    refine (waits_r _ _ _ _ _ _ h7).mono ?_
    rintro e w7 ⟨rfl, hb1⟩
    have T := T.call hb1
    clear hb1
    have t1 := T.m0
    have t2 := T.m1
    have t3 := T.o0
    have t4 := T.o1
    go_wp2_with fail
    clear t1 t2 t3 t4
    refine (waits_r _ _ _ _ _ _ h8).mono ?_
    rintro e w8 ⟨rfl, hb1⟩
    have T := T.call hb1
    clear hb1
    have t1 := T.m0
    have t2 := T.m1
    have t3 := T.o0
    have t4 := T.o1
    go_wp2_with fail
    clear t1 t2 t3 t4
    refine (waits_r _ _ _ _ _ _ h9).mono ?_
    rintro e w9 ⟨rfl, hb1⟩
    have T := T.call hb1
    clear hb1
    have t1 := T.m0
    have t2 := T.m1
    have t3 := T.o0
    have t4 := T.o1
    go_wp2_with fail
    clear t1 t2 t3 t4
    refine (waits_r _ _ _ _ _ _ h10).mono ?_
    rintro e w10 ⟨rfl, hb1⟩
    have T := T.call hb1
    clear hb1
    have t1 := T.m0
    have t2 := T.m1
    have t3 := T.o0
    have t4 := T.o1
    go_wp2_with fail
    go_ret
    exact ⟨rfl, T.bw⟩
end Go.Proofs.Qxb6630394a
