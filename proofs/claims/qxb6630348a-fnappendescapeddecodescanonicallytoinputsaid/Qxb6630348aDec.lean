import Derived.Test.Qxb6630348aTop
namespace Go.Proofs.Qxb6630348a
set_option linter.unusedSimpArgs false
open Go.RowKit

theorem hexd_lo (n : Nat) (h : n < 10) : (hexd n).toNat = 48 + n := by
  unfold hexd; rw [if_pos h, UInt8.toNat_ofNat']; omega
theorem hexd_hi (n : Nat) (h : 10 ≤ n) (h2 : n < 16) : (hexd n).toNat = 87 + n := by
  unfold hexd; rw [if_neg (by omega), UInt8.toNat_ofNat']; omega

theorem hexVal_any (w : World) (n : Nat) (h : n < 16) (x : Nat) (hx : Hid ((hexd n).toNat = x)) : Calls Try.prog 14 #[.int .u8 (x : Int)] w fun e w' => e = .returned (.int .i64 (n : Int)) ∧ w = w' := by
  by_cases hlo : n < 10
  · have e : x = 48 + n := by rw [← hx.out]; exact hexd_lo n hlo
    subst e
    clear hx
    have e1 : ((48 + n : Nat) : Int) = 48 + (n : Int) := by omega
    rw [e1]
    clear e1
    have h1 : (n : Int) < 10 := by omega
    go_enter Try.func14, Try.ntmps14
    go_wp2
    go_ret
    refine ⟨?_, rfl⟩
    go_num
  · have e : x = 87 + n := by rw [← hx.out]; exact hexd_hi n (by omega) h
    subst e
    clear hx
    have e1 : ((87 + n : Nat) : Int) = 87 + (n : Int) := by omega
    rw [e1]
    clear e1
    have h1 : (10 : Int) ≤ (n : Int) := by omega
    have h2 : (n : Int) < 16 := by omega
    go_enter Try.func14, Try.ntmps14
    go_wp2
    go_ret
    refine ⟨?_, rfl⟩
    go_num

/-- the text from where byte j stands on -/
theorem text_at (L T : List UInt8) (hT : esc L = T) (j : Nat) (hj : j < L.length) : ∀ d (hd : d < (esc1 L[j]).length), ∃ h : (esc (L.take j)).length + d < T.length, T[(esc (L.take j)).length + d] = (esc1 L[j])[d] := by
  intro d hd
  have e : T = esc (L.take j) ++ (esc1 L[j] ++ esc (L.drop (j + 1))) := by
    rw [← hT]
    conv => lhs; rw [← List.take_append_drop j L, List.drop_eq_getElem_cons hj]
    rw [esc_append]
    congr 1
  subst e
  refine ⟨by simp; omega, ?_⟩
  rw [List.getElem_append_right (by omega)]
  simp [List.getElem_append_left hd]

theorem take_step (L : List UInt8) (j : Nat) (hj : j < L.length) : L.take (j + 1) = L.take j ++ [L[j]] := List.take_succ_eq_append_getElem hj

theorem esc_take_step (L : List UInt8) (j : Nat) (hj : j < L.length) : (esc (L.take (j + 1))).length = (esc (L.take j)).length + (esc1 L[j]).length := by
  rw [take_step L j hj, esc_append, esc_one, List.length_append]

theorem esc1_pos (c : UInt8) : 0 < (esc1 c).length := by
  unfold esc1
  split
  · simp
  repeat' (split; · simp)
  simp

set_option maxHeartbeats 2000000 in
set_option maxRecDepth 100000 in
theorem decode_any (w : World) (v : Value) (L T : List UInt8) (hT : Hid (esc L = T)) (hr : Reads w v T) (hl : T.length ≤ 100000000) :
    Calls Try.prog 9 #[v] w fun e w' => ∃ ao c, e = .returned (.tuple #[.slice ao L.length c, .bool true]) ∧ Owns w' w.heap.size (.slice ao L.length c) L ∧ Below w.heap.size w w' := by
  obtain ⟨a, c, rfl, _, hc⟩ := hr
  obtain ⟨N, hN⟩ : ∃ N, Hid (T.length = N) := ⟨_, by unfold Hid; rfl⟩
  rw [hN.out] at hl
  have hLT : L.length ≤ N := by
    rw [← hN.out, ← hT.out]
    clear hT hc hN hl
    induction L with
    | nil => simp
    | cons x L ih =>
      have h1 := esc1_pos x
      have : esc (x :: L) = esc1 x ++ esc L := by simp [esc]
      rw [this, List.length_append, List.length_cons]
      omega
  rw [hN.out]
  have HC : Hid ((N : Int) = ((N : Nat) : Int)) := by unfold Hid; rfl
  go_enter Try.func9, Try.ntmps9
  go_wp2_with (first | ((with_reducible refine at_make_own N ?_ ?_ HC.out ?_ ?_); rfl; rfl; omega; intro w1 hO1 hB1))
  go_loopw [4, 5] (fun o i wr => ∃ j : Nat, j ≤ L.length ∧ i = .int .i64 ((esc (L.take j)).length : Int) ∧ Owns wr w.heap.size o (L.take j) ∧ Below w.heap.size w wr) (fun _ i _ => N - (intOf i).toNat)
  case atStart => exact ⟨0, Nat.zero_le _, by rw [List.take_zero, esc_nil, List.length_nil]; rfl, by rw [List.take_zero]; exact hO1, hB1⟩
  case round =>
    clear hO1 hB1 HC
    obtain ⟨j, hj, rfl, hO, hB⟩ := hrel
    by_cases hlt : j < L.length
    · have hat := text_at L T hT.out j hlt
      have HST := (id (esc_take_step L j hlt) : Hid _)
      have HTK := (id (take_step L j hlt) : Hid _)
      have hp1 := esc1_pos L[j]
      obtain ⟨b, off, ha, hbl, hcell⟩ := hc (by obtain ⟨h, _⟩ := hat 0 hp1; omega)
      subst ha
      obtain ⟨p, hp⟩ : ∃ p : Nat, Hid ((esc (L.take j)).length = p) := ⟨(esc (L.take j)).length, by unfold Hid; rfl⟩
      have hrd : ∀ d (hd : d < (esc1 L[j]).length), p + d < N ∧ wr.cell? ⟨b, off + (p + d), none⟩ = some (.int .u8 ((esc1 L[j])[d].toNat : Int)) := by
        intro d hd
        obtain ⟨h1, h2⟩ := hat d hd
        rw [hp.out] at h1
        refine ⟨by rw [← hN.out]; exact h1, ?_⟩
        rw [hB.cell (p := ⟨b, off + (p + d), none⟩) hbl, hcell (p + d) h1]
        have : T[p + d] = (esc1 L[j])[d] := by rw [← h2]; simp only [hp.out]
        rw [this]
      clear hat hcell hc
      rw [hp.out]
      rw [hp.out] at HST
      obtain ⟨x, hx⟩ : ∃ x : Nat, Hid (L[j].toNat = x) := ⟨L[j].toNat, by unfold Hid; rfl⟩
      have hw := hB.size
      have HBD : Hid ((L.take j).length + 1 ≤ 140737488355328) := by unfold Hid; rw [List.length_take]; omega
      rcases byte_kinds x with h | h | h | h | h | h | h | h | h
      · -- ordinary
        have he : esc1 L[j] = [L[j]] := esc1_plain (by rw [hx.out]; exact h)
        have c0 := hrd 0 hp1
        have hex : (esc1 L[j])[0].toNat = x := by simp only [he, List.getElem_cons_zero]; exact hx.out
        rw [hex, Nat.add_zero] at c0
        rw [he, List.length_singleton] at HST
        obtain ⟨c01, c02⟩ := c0
        clear hrd he hex hp1
        obtain ⟨h1, h2, h3⟩ := h
        have e1 : ((x : Int) == 34) = false := beq_eq_false_iff_ne.2 (by omega)
        have e2 : ((x : Int) != 92) = true := by rw [bne_iff_ne]; omega
        have h4 : (32 : Int) ≤ (x : Int) := by omega
        have hpl : (p : Int) < (N : Int) := by omega
        clear h2 h3
        have HNW : Hid ((#[.int .u8 (x : Int)] : Array Value).toList = bc [L[j]]) := by unfold Hid; simp [bc, hx.out]
        have hw2 : w.heap.size ≤ (wr.alloc (.cells #[.int .u8 (x : Int)] 5)).heap.size := by simp; omega
        go_wp2_with (first | ((with_reducible refine at_append_sl (hO.alloc (.cells #[.int .u8 (x : Int)] 5)) [L[j]] ⟨wr.heap.size, 0, none⟩ 1 1 rfl (news_of_alloc wr [L[j]] _ HNW.out) HBD.out hw2 ?_ ?_ ?_); rfl; rfl; intro d1 w1 hO1 hB1))
        rw [← HTK.out] at hO1
        go_roundw
        case rel => exact ⟨j + 1, by omega, by rw [HST.out]; go_num, hO1, (hB.alloc hw _).trans hB1⟩
        case measure => simp [intOf]; omega
      · -- the byte 34
        subst h
        have he : esc1 L[j] = [92, 34] := by
          have : L[j] = 34 := UInt8.toNat_inj.1 hx.out
          rw [this]; rfl
        have hl2 : 1 < (esc1 L[j]).length := by rw [he]; decide
        have c0 := hrd 0 hp1
        have c1 := hrd 1 hl2
        have g0 : (esc1 L[j])[0].toNat = 92 := by simp only [he]; rfl
        have g1 : (esc1 L[j])[1].toNat = 34 := by simp only [he]; rfl
        rw [g0, Nat.add_zero] at c0
        rw [g1] at c1
        rw [he] at HST
        have HST2 : Hid ((esc (L.take (j + 1))).length = p + 2) := HST
        obtain ⟨c01, c02⟩ := c0
        obtain ⟨c11, c12⟩ := c1
        have c13 : wr.cell? ⟨b, off + p + 1, none⟩ = some (.int .u8 34) := by rw [Nat.add_assoc]; exact c12
        have hpl : (p : Int) < (N : Int) := by omega
        have hpl1 : (p : Int) + 1 < (N : Int) := by omega
        clear hrd he g0 g1 hl2 hp1 HST
        have HNW : Hid ((#[.int .u8 34] : Array Value).toList = bc [L[j]]) := by unfold Hid; simp [bc, hx.out]
        have hw2 : w.heap.size ≤ (wr.alloc (.cells #[.int .u8 34] 5)).heap.size := by simp; omega
        go_wp2_with (first | ((with_reducible refine at_append_sl (hO.alloc (.cells #[.int .u8 34] 5)) [L[j]] ⟨wr.heap.size, 0, none⟩ 1 1 rfl (news_of_alloc wr [L[j]] _ HNW.out) HBD.out hw2 ?_ ?_ ?_); rfl; rfl; intro d1 w1 hO1 hB1))
        rw [← HTK.out] at hO1
        go_roundw
        case rel => exact ⟨j + 1, by omega, by rw [HST2.out]; go_num, hO1, (hB.alloc hw _).trans hB1⟩
        case measure => simp [intOf]; omega
      · -- the byte 92
        subst h
        have he : esc1 L[j] = [92, 92] := by
          have : L[j] = 92 := UInt8.toNat_inj.1 hx.out
          rw [this]; rfl
        have hl2 : 1 < (esc1 L[j]).length := by rw [he]; decide
        have c0 := hrd 0 hp1
        have c1 := hrd 1 hl2
        have g0 : (esc1 L[j])[0].toNat = 92 := by simp only [he]; rfl
        have g1 : (esc1 L[j])[1].toNat = 92 := by simp only [he]; rfl
        rw [g0, Nat.add_zero] at c0
        rw [g1] at c1
        rw [he] at HST
        have HST2 : Hid ((esc (L.take (j + 1))).length = p + 2) := HST
        obtain ⟨c01, c02⟩ := c0
        obtain ⟨c11, c12⟩ := c1
        have c13 : wr.cell? ⟨b, off + p + 1, none⟩ = some (.int .u8 92) := by rw [Nat.add_assoc]; exact c12
        have hpl : (p : Int) < (N : Int) := by omega
        have hpl1 : (p : Int) + 1 < (N : Int) := by omega
        clear hrd he g0 g1 hl2 hp1 HST
        have HNW : Hid ((#[.int .u8 92] : Array Value).toList = bc [L[j]]) := by unfold Hid; simp [bc, hx.out]
        have hw2 : w.heap.size ≤ (wr.alloc (.cells #[.int .u8 92] 5)).heap.size := by simp; omega
        go_wp2_with (first | ((with_reducible refine at_append_sl (hO.alloc (.cells #[.int .u8 92] 5)) [L[j]] ⟨wr.heap.size, 0, none⟩ 1 1 rfl (news_of_alloc wr [L[j]] _ HNW.out) HBD.out hw2 ?_ ?_ ?_); rfl; rfl; intro d1 w1 hO1 hB1))
        rw [← HTK.out] at hO1
        go_roundw
        case rel => exact ⟨j + 1, by omega, by rw [HST2.out]; go_num, hO1, (hB.alloc hw _).trans hB1⟩
        case measure => simp [intOf]; omega
      · -- the byte 8
        subst h
        have he : esc1 L[j] = [92, 98] := by
          have : L[j] = 8 := UInt8.toNat_inj.1 hx.out
          rw [this]; rfl
        have hl2 : 1 < (esc1 L[j]).length := by rw [he]; decide
        have c0 := hrd 0 hp1
        have c1 := hrd 1 hl2
        have g0 : (esc1 L[j])[0].toNat = 92 := by simp only [he]; rfl
        have g1 : (esc1 L[j])[1].toNat = 98 := by simp only [he]; rfl
        rw [g0, Nat.add_zero] at c0
        rw [g1] at c1
        rw [he] at HST
        have HST2 : Hid ((esc (L.take (j + 1))).length = p + 2) := HST
        obtain ⟨c01, c02⟩ := c0
        obtain ⟨c11, c12⟩ := c1
        have c13 : wr.cell? ⟨b, off + p + 1, none⟩ = some (.int .u8 98) := by rw [Nat.add_assoc]; exact c12
        have hpl : (p : Int) < (N : Int) := by omega
        have hpl1 : (p : Int) + 1 < (N : Int) := by omega
        clear hrd he g0 g1 hl2 hp1 HST
        have HNW : Hid ((#[.int .u8 8] : Array Value).toList = bc [L[j]]) := by unfold Hid; simp [bc, hx.out]
        have hw2 : w.heap.size ≤ (wr.alloc (.cells #[.int .u8 8] 5)).heap.size := by simp; omega
        go_wp2_with (first | ((with_reducible refine at_append_sl (hO.alloc (.cells #[.int .u8 8] 5)) [L[j]] ⟨wr.heap.size, 0, none⟩ 1 1 rfl (news_of_alloc wr [L[j]] _ HNW.out) HBD.out hw2 ?_ ?_ ?_); rfl; rfl; intro d1 w1 hO1 hB1))
        rw [← HTK.out] at hO1
        go_roundw
        case rel => exact ⟨j + 1, by omega, by rw [HST2.out]; go_num, hO1, (hB.alloc hw _).trans hB1⟩
        case measure => simp [intOf]; omega
      · -- the byte 12
        subst h
        have he : esc1 L[j] = [92, 102] := by
          have : L[j] = 12 := UInt8.toNat_inj.1 hx.out
          rw [this]; rfl
        have hl2 : 1 < (esc1 L[j]).length := by rw [he]; decide
        have c0 := hrd 0 hp1
        have c1 := hrd 1 hl2
        have g0 : (esc1 L[j])[0].toNat = 92 := by simp only [he]; rfl
        have g1 : (esc1 L[j])[1].toNat = 102 := by simp only [he]; rfl
        rw [g0, Nat.add_zero] at c0
        rw [g1] at c1
        rw [he] at HST
        have HST2 : Hid ((esc (L.take (j + 1))).length = p + 2) := HST
        obtain ⟨c01, c02⟩ := c0
        obtain ⟨c11, c12⟩ := c1
        have c13 : wr.cell? ⟨b, off + p + 1, none⟩ = some (.int .u8 102) := by rw [Nat.add_assoc]; exact c12
        have hpl : (p : Int) < (N : Int) := by omega
        have hpl1 : (p : Int) + 1 < (N : Int) := by omega
        clear hrd he g0 g1 hl2 hp1 HST
        have HNW : Hid ((#[.int .u8 12] : Array Value).toList = bc [L[j]]) := by unfold Hid; simp [bc, hx.out]
        have hw2 : w.heap.size ≤ (wr.alloc (.cells #[.int .u8 12] 5)).heap.size := by simp; omega
        go_wp2_with (first | ((with_reducible refine at_append_sl (hO.alloc (.cells #[.int .u8 12] 5)) [L[j]] ⟨wr.heap.size, 0, none⟩ 1 1 rfl (news_of_alloc wr [L[j]] _ HNW.out) HBD.out hw2 ?_ ?_ ?_); rfl; rfl; intro d1 w1 hO1 hB1))
        rw [← HTK.out] at hO1
        go_roundw
        case rel => exact ⟨j + 1, by omega, by rw [HST2.out]; go_num, hO1, (hB.alloc hw _).trans hB1⟩
        case measure => simp [intOf]; omega
      · -- the byte 10
        subst h
        have he : esc1 L[j] = [92, 110] := by
          have : L[j] = 10 := UInt8.toNat_inj.1 hx.out
          rw [this]; rfl
        have hl2 : 1 < (esc1 L[j]).length := by rw [he]; decide
        have c0 := hrd 0 hp1
        have c1 := hrd 1 hl2
        have g0 : (esc1 L[j])[0].toNat = 92 := by simp only [he]; rfl
        have g1 : (esc1 L[j])[1].toNat = 110 := by simp only [he]; rfl
        rw [g0, Nat.add_zero] at c0
        rw [g1] at c1
        rw [he] at HST
        have HST2 : Hid ((esc (L.take (j + 1))).length = p + 2) := HST
        obtain ⟨c01, c02⟩ := c0
        obtain ⟨c11, c12⟩ := c1
        have c13 : wr.cell? ⟨b, off + p + 1, none⟩ = some (.int .u8 110) := by rw [Nat.add_assoc]; exact c12
        have hpl : (p : Int) < (N : Int) := by omega
        have hpl1 : (p : Int) + 1 < (N : Int) := by omega
        clear hrd he g0 g1 hl2 hp1 HST
        have HNW : Hid ((#[.int .u8 10] : Array Value).toList = bc [L[j]]) := by unfold Hid; simp [bc, hx.out]
        have hw2 : w.heap.size ≤ (wr.alloc (.cells #[.int .u8 10] 5)).heap.size := by simp; omega
        go_wp2_with (first | ((with_reducible refine at_append_sl (hO.alloc (.cells #[.int .u8 10] 5)) [L[j]] ⟨wr.heap.size, 0, none⟩ 1 1 rfl (news_of_alloc wr [L[j]] _ HNW.out) HBD.out hw2 ?_ ?_ ?_); rfl; rfl; intro d1 w1 hO1 hB1))
        rw [← HTK.out] at hO1
        go_roundw
        case rel => exact ⟨j + 1, by omega, by rw [HST2.out]; go_num, hO1, (hB.alloc hw _).trans hB1⟩
        case measure => simp [intOf]; omega
      · -- the byte 13
        subst h
        have he : esc1 L[j] = [92, 114] := by
          have : L[j] = 13 := UInt8.toNat_inj.1 hx.out
          rw [this]; rfl
        have hl2 : 1 < (esc1 L[j]).length := by rw [he]; decide
        have c0 := hrd 0 hp1
        have c1 := hrd 1 hl2
        have g0 : (esc1 L[j])[0].toNat = 92 := by simp only [he]; rfl
        have g1 : (esc1 L[j])[1].toNat = 114 := by simp only [he]; rfl
        rw [g0, Nat.add_zero] at c0
        rw [g1] at c1
        rw [he] at HST
        have HST2 : Hid ((esc (L.take (j + 1))).length = p + 2) := HST
        obtain ⟨c01, c02⟩ := c0
        obtain ⟨c11, c12⟩ := c1
        have c13 : wr.cell? ⟨b, off + p + 1, none⟩ = some (.int .u8 114) := by rw [Nat.add_assoc]; exact c12
        have hpl : (p : Int) < (N : Int) := by omega
        have hpl1 : (p : Int) + 1 < (N : Int) := by omega
        clear hrd he g0 g1 hl2 hp1 HST
        have HNW : Hid ((#[.int .u8 13] : Array Value).toList = bc [L[j]]) := by unfold Hid; simp [bc, hx.out]
        have hw2 : w.heap.size ≤ (wr.alloc (.cells #[.int .u8 13] 5)).heap.size := by simp; omega
        go_wp2_with (first | ((with_reducible refine at_append_sl (hO.alloc (.cells #[.int .u8 13] 5)) [L[j]] ⟨wr.heap.size, 0, none⟩ 1 1 rfl (news_of_alloc wr [L[j]] _ HNW.out) HBD.out hw2 ?_ ?_ ?_); rfl; rfl; intro d1 w1 hO1 hB1))
        rw [← HTK.out] at hO1
        go_roundw
        case rel => exact ⟨j + 1, by omega, by rw [HST2.out]; go_num, hO1, (hB.alloc hw _).trans hB1⟩
        case measure => simp [intOf]; omega
      · -- the byte 9
        subst h
        have he : esc1 L[j] = [92, 116] := by
          have : L[j] = 9 := UInt8.toNat_inj.1 hx.out
          rw [this]; rfl
        have hl2 : 1 < (esc1 L[j]).length := by rw [he]; decide
        have c0 := hrd 0 hp1
        have c1 := hrd 1 hl2
        have g0 : (esc1 L[j])[0].toNat = 92 := by simp only [he]; rfl
        have g1 : (esc1 L[j])[1].toNat = 116 := by simp only [he]; rfl
        rw [g0, Nat.add_zero] at c0
        rw [g1] at c1
        rw [he] at HST
        have HST2 : Hid ((esc (L.take (j + 1))).length = p + 2) := HST
        obtain ⟨c01, c02⟩ := c0
        obtain ⟨c11, c12⟩ := c1
        have c13 : wr.cell? ⟨b, off + p + 1, none⟩ = some (.int .u8 116) := by rw [Nat.add_assoc]; exact c12
        have hpl : (p : Int) < (N : Int) := by omega
        have hpl1 : (p : Int) + 1 < (N : Int) := by omega
        clear hrd he g0 g1 hl2 hp1 HST
        have HNW : Hid ((#[.int .u8 9] : Array Value).toList = bc [L[j]]) := by unfold Hid; simp [bc, hx.out]
        have hw2 : w.heap.size ≤ (wr.alloc (.cells #[.int .u8 9] 5)).heap.size := by simp; omega
        go_wp2_with (first | ((with_reducible refine at_append_sl (hO.alloc (.cells #[.int .u8 9] 5)) [L[j]] ⟨wr.heap.size, 0, none⟩ 1 1 rfl (news_of_alloc wr [L[j]] _ HNW.out) HBD.out hw2 ?_ ?_ ?_); rfl; rfl; intro d1 w1 hO1 hB1))
        rw [← HTK.out] at hO1
        go_roundw
        case rel => exact ⟨j + 1, by omega, by rw [HST2.out]; go_num, hO1, (hB.alloc hw _).trans hB1⟩
        case measure => simp [intOf]; omega
      · -- another control byte
        obtain ⟨h0, h1, h2, h3, h4, h5⟩ := h
        obtain ⟨q, hq⟩ : ∃ q : Nat, Hid (x / 16 = q) := ⟨x / 16, by unfold Hid; rfl⟩
        obtain ⟨r, hr⟩ : ∃ r : Nat, Hid (x % 16 = r) := ⟨x % 16, by unfold Hid; rfl⟩
        have he : esc1 L[j] = [92, 117, 48, 48, hexd q, hexd r] := by
          unfold esc1
          rw [hx.out, hq.out, hr.out, if_neg (by omega), if_neg (by omega), if_neg h1, if_neg h2, if_neg h3, if_neg h4, if_neg h5]
        obtain ⟨y4, hy4⟩ : ∃ y : Nat, Hid ((hexd q).toNat = y) := ⟨_, by unfold Hid; rfl⟩
        obtain ⟨y5, hy5⟩ : ∃ y : Nat, Hid ((hexd r).toNat = y) := ⟨_, by unfold Hid; rfl⟩
        rw [he] at hrd
        have c0 : p + 0 < N ∧ wr.cell? ⟨b, off + (p + 0), none⟩ = some (.int .u8 ((92 : Nat) : Int)) := hrd 0 (by simp)
        rw [Nat.add_zero] at c0
        obtain ⟨c01, c02⟩ := c0
        have hpl : (p : Int) < (N : Int) := by omega
        have c1 : p + 1 < N ∧ wr.cell? ⟨b, off + (p + 1), none⟩ = some (.int .u8 ((117 : Nat) : Int)) := hrd 1 (by simp)
        obtain ⟨c11, c12⟩ := c1
        have c13 : wr.cell? ⟨b, off + p + 1, none⟩ = some (.int .u8 ((117 : Nat) : Int)) := by rw [Nat.add_assoc]; exact c12
        have pl1 : (p : Int) + 1 < (N : Int) := by omega
        have c2 : p + 2 < N ∧ wr.cell? ⟨b, off + (p + 2), none⟩ = some (.int .u8 ((48 : Nat) : Int)) := hrd 2 (by simp)
        obtain ⟨c21, c22⟩ := c2
        have c23 : wr.cell? ⟨b, off + p + 2, none⟩ = some (.int .u8 ((48 : Nat) : Int)) := by rw [Nat.add_assoc]; exact c22
        have pl2 : (p : Int) + 2 < (N : Int) := by omega
        have c3 : p + 3 < N ∧ wr.cell? ⟨b, off + (p + 3), none⟩ = some (.int .u8 ((48 : Nat) : Int)) := hrd 3 (by simp)
        obtain ⟨c31, c32⟩ := c3
        have c33 : wr.cell? ⟨b, off + p + 3, none⟩ = some (.int .u8 ((48 : Nat) : Int)) := by rw [Nat.add_assoc]; exact c32
        have pl3 : (p : Int) + 3 < (N : Int) := by omega
        have c4 : p + 4 < N ∧ wr.cell? ⟨b, off + (p + 4), none⟩ = some (.int .u8 (((hexd q).toNat : Nat) : Int)) := hrd 4 (by simp)
        rw [hy4.out] at c4
        obtain ⟨c41, c42⟩ := c4
        have c43 : wr.cell? ⟨b, off + p + 4, none⟩ = some (.int .u8 (y4 : Int)) := by rw [Nat.add_assoc]; exact c42
        have pl4 : (p : Int) + 4 < (N : Int) := by omega
        have c5 : p + 5 < N ∧ wr.cell? ⟨b, off + (p + 5), none⟩ = some (.int .u8 (((hexd r).toNat : Nat) : Int)) := hrd 5 (by simp)
        rw [hy5.out] at c5
        obtain ⟨c51, c52⟩ := c5
        have c53 : wr.cell? ⟨b, off + p + 5, none⟩ = some (.int .u8 (y5 : Int)) := by rw [Nat.add_assoc]; exact c52
        have pl5 : (p : Int) + 5 < (N : Int) := by omega
        have pl6 : (p : Int) + 6 ≤ (N : Int) := by omega
        rw [he] at HST
        have HST2 : Hid ((esc (L.take (j + 1))).length = p + 6) := HST
        have hq16 : q < 16 := by have := hq.out; omega
        have hr16 : r < 16 := by have := hr.out; omega
        have hv : (q : Int) * 16 + (r : Int) = (x : Int) := by have := hq.out; have := hr.out; omega
        have e2 : ((x : Int) == 8) = false := beq_eq_false_iff_ne.2 (by omega)
        have e3 : ((x : Int) == 12) = false := beq_eq_false_iff_ne.2 (by omega)
        have e4 : ((x : Int) == 10) = false := beq_eq_false_iff_ne.2 (by omega)
        have e5 : ((x : Int) == 13) = false := beq_eq_false_iff_ne.2 (by omega)
        have e6 : ((x : Int) == 9) = false := beq_eq_false_iff_ne.2 (by omega)
        have h6 : (x : Int) < 32 := by omega
        clear hrd he hp1 HST h1 h2 h3 h4 h5
        have HNW : Hid ((#[.int .u8 (x : Int)] : Array Value).toList = bc [L[j]]) := by unfold Hid; simp [bc, hx.out]
        have hw2 : w.heap.size ≤ (wr.alloc (.cells #[.int .u8 (x : Int)] 5)).heap.size := by simp; omega
        go_wp2_with fail
        refine (hexVal_any wr q hq16 y4 hy4).mono ?_
        rintro e wz ⟨rfl, rfl⟩
        go_wp2_with fail
        refine (hexVal_any wr r hr16 y5 hy5).mono ?_
        rintro e wz ⟨rfl, rfl⟩
        go_wp2_with (first | ((with_reducible refine at_append_sl (hO.alloc (.cells #[.int .u8 (x : Int)] 5)) [L[j]] ⟨wr.heap.size, 0, none⟩ 1 1 rfl (news_of_alloc wr [L[j]] _ HNW.out) HBD.out hw2 ?_ ?_ ?_); rfl; rfl; intro d1 w1 hO1 hB1))
        rw [← HTK.out] at hO1
        go_roundw
        case rel => exact ⟨j + 1, by omega, by rw [HST2.out]; go_num, hO1, (hB.alloc hw _).trans hB1⟩
        case measure => simp [intOf]; omega
    · have hjL : j = L.length := by omega
      subst hjL
      have ht : L.take L.length = L := List.take_length
      rw [ht] at hO ⊢
      rw [hT.out, hN.out]
      obtain ⟨ao, co, rfl, hO'⟩ := hO.form
      clear hc ht
      go_wp2
      go_ret2
      exact ⟨ao, co, rfl, hO', hB⟩
end Go.Proofs.Qxb6630348a
