import Derived.Test.Qxb6630305aBig
namespace Go.Proofs.Qxb6630305a
open Go.RowKit

set_option maxHeartbeats 2000000 in
set_option maxRecDepth 100000 in
theorem bytesF_any (w : World) (v : Value) (n : Nat) (C : Nat → Nat → Int) (R : Nat → Bool) (h : Figs w v n C R) :
    Calls Try.prog 5 #[v] w fun e w' => SomeBool e ∧ w = w' := by
  obtain ⟨ao, c, rfl, hn, hc⟩ := h
  by_cases hbig : (1048576 : Int) < (n : Int)
  · go_enter Try.func5, Try.ntmps5
    go_wp2_with fail
    go_ret
    exact ⟨⟨_, rfl⟩, rfl⟩
  have hbig' : decide ((1048576 : Int) < (n : Int)) = false := by simpa using hbig
  go_enter Try.func5, Try.ntmps5
  go_wp2
  go_loop [3, 4] (fun t i => ∃ k : Nat, k ≤ n ∧ IsI t ∧ i = .int .i64 k) (fun _ i => n - (intOf i).toNat)
  case atStart => exact ⟨0, Nat.zero_le _, ⟨_, rfl⟩, rfl⟩
  case round =>
    obtain ⟨k, hk, ⟨t0, rfl⟩, rfl⟩ := hrel
    by_cases hlt : k < n
    · obtain ⟨b, off, ha, hcell⟩ := hc (by omega)
      cases ha
      obtain ⟨hlt0, c0, c1, c2, c3, c4, c5, c6, c7, c8, c9, c10, c11, c12, c13, c14, ⟨v15, c15, l15⟩, ⟨v16, c16, l16⟩, ⟨v17, c17, l17⟩⟩ := hcell k hlt
      obtain ⟨a15, n15, p15, rfl, hn15, hc15⟩ := id l15
      obtain ⟨a16, n16, p16, rfl, hn16, _⟩ := id l16
      obtain ⟨a17, n17, p17, rfl, hn17, hc17⟩ := id l17
      have HC15 := (id hc15 : Hid _)
      have HC17 := (id hc17 : Hid _)
      clear hcell hc c0 c1 c2 c3 c4 c5 c6 c7 c8 c9 c10 c11 c12 c13 c14 hc15 hc17
      go_wp2
      all_goals (try (go_ret; exact ⟨⟨_, rfl⟩, rfl⟩))
      go_loop [3, 5] (fun t j => ∃ m : Nat, m ≤ n15 ∧ IsI t ∧ j = .int .i64 m) (fun _ j => n15 - (intOf j).toNat)
      case atStart => exact ⟨0, Nat.zero_le _, ⟨_, rfl⟩, rfl⟩
      case round =>
        obtain ⟨m, hm, ⟨t1, rfl⟩, rfl⟩ := hrel
        by_cases hlt1 : m < n15
        · obtain ⟨b1, off1, ha1, hbB1, hc1⟩ := HC15.out (by omega)
          cases ha1
          obtain ⟨x0, x4, s1, s2, s3, p, h0, h1, h2, h3, h4, h5, hp⟩ := hc1 m hlt1
          clear hc1 hp h0 h4 h5
          go_wp2
          all_goals (try (go_ret; exact ⟨⟨_, rfl⟩, rfl⟩))
          go_round
          case rel => exact ⟨m + 1, by omega, ⟨_, rfl⟩, by go_num⟩
          case measure => simp [intOf]; omega
        · go_wp2
          all_goals (try (go_ret; exact ⟨⟨_, rfl⟩, rfl⟩))
          go_loop [3, 6] (fun t j => ∃ m : Nat, m ≤ n17 ∧ IsI t ∧ j = .int .i64 m) (fun _ j => n17 - (intOf j).toNat)
          case atStart => exact ⟨0, Nat.zero_le _, ⟨_, rfl⟩, rfl⟩
          case round =>
            obtain ⟨m2, hm2, ⟨t2, rfl⟩, rfl⟩ := hrel
            by_cases hlt2 : m2 < n17
            · obtain ⟨b1, off1, ha1, hbB1, hc1⟩ := HC17.out (by omega)
              cases ha1
              obtain ⟨x, h1, hid⟩ := hc1 m2 hlt2
              obtain ⟨xa, xn, xc, rfl, hxn, _⟩ := hid
              clear hc1
              go_wp2
              all_goals (try (go_ret; exact ⟨⟨_, rfl⟩, rfl⟩))
              go_round
              case rel => exact ⟨m2 + 1, by omega, ⟨_, rfl⟩, by go_num⟩
              case measure => simp [intOf]; omega
            · go_wp2
              go_round
              case rel => exact ⟨k + 1, by omega, ⟨_, rfl⟩, by go_num⟩
              case measure => simp [intOf]; omega
    · go_wp2
      go_ret
      exact ⟨⟨_, rfl⟩, rfl⟩
end Go.Proofs.Qxb6630305a
