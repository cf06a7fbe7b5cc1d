import Derived.Test.Qxb6630348aApp
import Derived.Deep.RegionHeld3
namespace Go.Proofs.Qxb6630348a
set_option linter.unusedSimpArgs false
open Go.RowKit

theorem idx_str (s : ByteArray) (k : Nat) (h : k < s.size) (x : Nat) (hx : s[k].toNat = x) (w : World) : (Instr.index 9 (.string s) (.int .i64 (k : Int))).run Try.prog w = .ok (.int .u8 (x : Int)) w := by
  rw [← hx]
  go_simp

theorem hex_idx (n : Nat) (h : n < 16) (w : World) : (Instr.index 9 (.string ⟨#[48, 49, 50, 51, 52, 53, 54, 55, 56, 57, 97, 98, 99, 100, 101, 102]⟩) (.int .u8 (n : Int))).run Try.prog w = .ok (.int .u8 ((hexd n).toNat : Int)) w := by
  match n, h with
  | 0, _ => rfl
  | 1, _ => rfl
  | 2, _ => rfl
  | 3, _ => rfl
  | 4, _ => rfl
  | 5, _ => rfl
  | 6, _ => rfl
  | 7, _ => rfl
  | 8, _ => rfl
  | 9, _ => rfl
  | 10, _ => rfl
  | 11, _ => rfl
  | 12, _ => rfl
  | 13, _ => rfl
  | 14, _ => rfl
  | 15, _ => rfl
  | n + 16, h => exact absurd h (by omega)

theorem and15 (n : Nat) (h : n < 32) (r : Nat) (hr : n % 16 = r) : bits BinOp.and IntKind.u8 (n : Int) 15 = (r : Int) := by
  subst hr
  match n, h with
  | 0, _ => rfl
  | 1, _ => rfl
  | 2, _ => rfl
  | 3, _ => rfl
  | 4, _ => rfl
  | 5, _ => rfl
  | 6, _ => rfl
  | 7, _ => rfl
  | 8, _ => rfl
  | 9, _ => rfl
  | 10, _ => rfl
  | 11, _ => rfl
  | 12, _ => rfl
  | 13, _ => rfl
  | 14, _ => rfl
  | 15, _ => rfl
  | 16, _ => rfl
  | 17, _ => rfl
  | 18, _ => rfl
  | 19, _ => rfl
  | 20, _ => rfl
  | 21, _ => rfl
  | 22, _ => rfl
  | 23, _ => rfl
  | 24, _ => rfl
  | 25, _ => rfl
  | 26, _ => rfl
  | 27, _ => rfl
  | 28, _ => rfl
  | 29, _ => rfl
  | 30, _ => rfl
  | 31, _ => rfl
  | n + 32, h => exact absurd h (by omega)

/-- append at a step of a region that draws -/
theorem wp_append_sl {w : World} {o : Oper} {a : Act} {K : Act → World → Prop} {Q : Exit → Act → World → Prop} (sl x : Operand) (ho : o.op = .call { callee := .builtin .append, args := #[sl, x], argTypes := #[22, 22] })
    {base : Nat} {v : Value} {xs : List UInt8} (hown : Owns w base v xs) (ys : List UInt8) (ad : Addr) (m c : Nat) (hm : ys.length = m) (hnews : ∀ j u, (bc ys)[j]? = some u → w.cell? (ad.add j) = some u)
    (hbytes : xs.length + m ≤ 140737488355328) (hbase : base ≤ w.heap.size) (hs : a.eval sl = v) (hx : a.eval x = .slice (some ad) m c)
    (h : ∀ v' w', Owns w' base v' (xs ++ ys) → Below base w w' → K (a.put o.dst v') w') : o.wp Try.prog a w K Q := by
  obtain ⟨i0, hi, hz0, hz1, hz2⟩ := info_parts Try.info5
  refine wp_append_own w sl x 22 ho base 5 i0 (.int .u8 0) 1 1 Try.underlying22 hi hz0 hz1 hz2 rfl (by decide) v xs.length (bc xs) hs hown ad m c (bc ys) hx (by rw [bc_length, Nat.mul_one]; exact hm) hnews (bc_oneCell ys) (by unfold maxLen; omega) (by omega) hbase ?_
  intro v' w' h1 h2 _
  refine h v' w' ?_ (below_append hown hbase h2)
  unfold Owns
  rw [bc_append, List.length_append, hm]
  exact h1

set_option maxHeartbeats 2000000 in
set_option maxRecDepth 100000 in
theorem appendEscaped_any (w : World) (base : Nat) (v : Value) (xs : List UInt8) (s : ByteArray) (hown : Owns w base v xs) (hbase : base ≤ w.heap.size) (hl : xs.length + 6 * s.size ≤ 1000000000000) :
    Calls Try.prog 13 #[v, .string s] w fun e w' => ∃ v', e = .returned v' ∧ Owns w' base v' (xs ++ esc s.data.toList) ∧ Below base w w' := by
  go_enter Try.func13, Try.ntmps13
  go_wp2
  go_loopw [0, 5, 6] (fun d st i wr => ∃ (k j : Nat), j ≤ k ∧ k ≤ s.size ∧ st = .int .i64 j ∧ i = .int .i64 k ∧ Owns wr base d (xs ++ esc (s.data.toList.take j)) ∧ (∀ c ∈ (s.data.toList.take k).drop j, Plain c) ∧ Below base w wr) (fun _ _ i _ => s.size - (intOf i).toNat)
  case atStart => exact ⟨0, 0, Nat.le_refl _, Nat.zero_le _, rfl, rfl, by simpa [esc_nil] using hown, by simp, Below.refl _ _⟩
  case round =>
    obtain ⟨k, j, hjk, hk, rfl, rfl, hO, hp, hB⟩ := hrel
    have hw : base ≤ wr.heap.size := Nat.le_trans hbase hB.size
    clear hown
    by_cases hlt : k < s.size
    · obtain ⟨x, hx⟩ : ∃ x : Nat, Hid (s[k].toNat = x) := ⟨s[k].toNat, by unfold Hid; rfl⟩
      have hix := idx_str s k hlt x hx.out
      have hlti : (k : Int) < (s.size : Int) := by omega
      have HS := (id (step_byte xs s k hlt) : Hid _)
      have HR := (id (step_run xs s j k hjk hp) : Hid _)
      have hle := esc_take_le s j
      have hle2 := esc_take_le s k
      have hsz : (s.extract j k).size ≤ s.size := by rw [ByteArray.size_extract]; omega
      have hl1 : (xs ++ esc (s.data.toList.take j)).length + (s.extract j k).size ≤ 140737488355328 := by rw [List.length_append]; omega
      have hl2 : (xs ++ esc (s.data.toList.take k)).length + 2 ≤ 140737488355328 := by rw [List.length_append]; omega
      have HL1 := (id hl1 : Hid _)
      have hl6 : (xs ++ esc (s.data.toList.take k)).length + 6 ≤ 140737488355328 := by rw [List.length_append]; omega
      have HL2 := (id hl2 : Hid _)
      have HL6 := (id hl6 : Hid _)
      clear hl1 hl2 hl6 hsz hle hle2
      rcases byte_kinds x with h | h | h | h | h | h | h | h | h
      · -- ordinary
        have hp' := run_plain s j k hjk hlt hp (by unfold Plain; rw [hx.out]; exact h)
        have HP := (id hp' : Hid _)
        obtain ⟨h1, h2, h3⟩ := h
        have e1 : ((x : Int) != 34) = true := by rw [bne_iff_ne]; omega
        have e2 : ((x : Int) != 92) = true := by rw [bne_iff_ne]; omega
        have h4 : (32 : Int) ≤ (x : Int) := by omega
        clear hp hp' h2 h3 HS HR
        go_wp2
        go_roundw
        case rel => exact ⟨k + 1, j, by omega, by omega, rfl, by go_num, hO, HP.out, hB⟩
        case measure => simp [intOf]; omega
      · -- the byte 34
        subst h
        have he : esc1 s[k] = [92, 34] := by
          have : s[k] = 34 := UInt8.toNat_inj.1 hx.out
          rw [this]; rfl
        rw [he] at HS
        clear hp he
        go_wp2_with (first | ((with_reducible refine at_append_str hO (s.extract j k) HL1.out hw ?_ ?_ ?_); rfl; rfl; intro d1 w1 hO1 hB1; rw [HR.out] at hO1; have hw1 := Nat.le_trans hw hB1.size; have hw2 : base ≤ (w1.alloc (.cells #[.int .u8 92, .int .u8 34] 5)).heap.size := by simp; omega) | ((with_reducible refine at_append_sl (hO1.alloc (.cells #[.int .u8 92, .int .u8 34] 5)) [92, 34] ⟨w1.heap.size, 0, none⟩ 2 2 rfl (news_of_alloc w1 [92, 34] _ rfl) HL2.out hw2 ?_ ?_ ?_); rfl; rfl; intro d2 w2 hO2 hB2))
        rw [HS.out] at hO2
        go_roundw
        case rel => exact ⟨k + 1, k + 1, Nat.le_refl _, by omega, by go_num, by go_num, hO2, by simp, (hB.trans hB1).trans (((Below.refl _ _).alloc hw1 _).trans hB2)⟩
        case measure => simp [intOf]; omega
      · -- the byte 92
        subst h
        have he : esc1 s[k] = [92, 92] := by
          have : s[k] = 92 := UInt8.toNat_inj.1 hx.out
          rw [this]; rfl
        rw [he] at HS
        clear hp he
        go_wp2_with (first | ((with_reducible refine at_append_str hO (s.extract j k) HL1.out hw ?_ ?_ ?_); rfl; rfl; intro d1 w1 hO1 hB1; rw [HR.out] at hO1; have hw1 := Nat.le_trans hw hB1.size; have hw2 : base ≤ (w1.alloc (.cells #[.int .u8 92, .int .u8 92] 5)).heap.size := by simp; omega) | ((with_reducible refine at_append_sl (hO1.alloc (.cells #[.int .u8 92, .int .u8 92] 5)) [92, 92] ⟨w1.heap.size, 0, none⟩ 2 2 rfl (news_of_alloc w1 [92, 92] _ rfl) HL2.out hw2 ?_ ?_ ?_); rfl; rfl; intro d2 w2 hO2 hB2))
        rw [HS.out] at hO2
        go_roundw
        case rel => exact ⟨k + 1, k + 1, Nat.le_refl _, by omega, by go_num, by go_num, hO2, by simp, (hB.trans hB1).trans (((Below.refl _ _).alloc hw1 _).trans hB2)⟩
        case measure => simp [intOf]; omega
      · -- the byte 8
        subst h
        have he : esc1 s[k] = [92, 98] := by
          have : s[k] = 8 := UInt8.toNat_inj.1 hx.out
          rw [this]; rfl
        rw [he] at HS
        clear hp he
        go_wp2_with (first | ((with_reducible refine at_append_str hO (s.extract j k) HL1.out hw ?_ ?_ ?_); rfl; rfl; intro d1 w1 hO1 hB1; rw [HR.out] at hO1; have hw1 := Nat.le_trans hw hB1.size; have hw2 : base ≤ (w1.alloc (.cells #[.int .u8 92, .int .u8 98] 5)).heap.size := by simp; omega) | ((with_reducible refine at_append_sl (hO1.alloc (.cells #[.int .u8 92, .int .u8 98] 5)) [92, 98] ⟨w1.heap.size, 0, none⟩ 2 2 rfl (news_of_alloc w1 [92, 98] _ rfl) HL2.out hw2 ?_ ?_ ?_); rfl; rfl; intro d2 w2 hO2 hB2))
        rw [HS.out] at hO2
        go_roundw
        case rel => exact ⟨k + 1, k + 1, Nat.le_refl _, by omega, by go_num, by go_num, hO2, by simp, (hB.trans hB1).trans (((Below.refl _ _).alloc hw1 _).trans hB2)⟩
        case measure => simp [intOf]; omega
      · -- the byte 12
        subst h
        have he : esc1 s[k] = [92, 102] := by
          have : s[k] = 12 := UInt8.toNat_inj.1 hx.out
          rw [this]; rfl
        rw [he] at HS
        clear hp he
        go_wp2_with (first | ((with_reducible refine at_append_str hO (s.extract j k) HL1.out hw ?_ ?_ ?_); rfl; rfl; intro d1 w1 hO1 hB1; rw [HR.out] at hO1; have hw1 := Nat.le_trans hw hB1.size; have hw2 : base ≤ (w1.alloc (.cells #[.int .u8 92, .int .u8 102] 5)).heap.size := by simp; omega) | ((with_reducible refine at_append_sl (hO1.alloc (.cells #[.int .u8 92, .int .u8 102] 5)) [92, 102] ⟨w1.heap.size, 0, none⟩ 2 2 rfl (news_of_alloc w1 [92, 102] _ rfl) HL2.out hw2 ?_ ?_ ?_); rfl; rfl; intro d2 w2 hO2 hB2))
        rw [HS.out] at hO2
        go_roundw
        case rel => exact ⟨k + 1, k + 1, Nat.le_refl _, by omega, by go_num, by go_num, hO2, by simp, (hB.trans hB1).trans (((Below.refl _ _).alloc hw1 _).trans hB2)⟩
        case measure => simp [intOf]; omega
      · -- the byte 10
        subst h
        have he : esc1 s[k] = [92, 110] := by
          have : s[k] = 10 := UInt8.toNat_inj.1 hx.out
          rw [this]; rfl
        rw [he] at HS
        clear hp he
        go_wp2_with (first | ((with_reducible refine at_append_str hO (s.extract j k) HL1.out hw ?_ ?_ ?_); rfl; rfl; intro d1 w1 hO1 hB1; rw [HR.out] at hO1; have hw1 := Nat.le_trans hw hB1.size; have hw2 : base ≤ (w1.alloc (.cells #[.int .u8 92, .int .u8 110] 5)).heap.size := by simp; omega) | ((with_reducible refine at_append_sl (hO1.alloc (.cells #[.int .u8 92, .int .u8 110] 5)) [92, 110] ⟨w1.heap.size, 0, none⟩ 2 2 rfl (news_of_alloc w1 [92, 110] _ rfl) HL2.out hw2 ?_ ?_ ?_); rfl; rfl; intro d2 w2 hO2 hB2))
        rw [HS.out] at hO2
        go_roundw
        case rel => exact ⟨k + 1, k + 1, Nat.le_refl _, by omega, by go_num, by go_num, hO2, by simp, (hB.trans hB1).trans (((Below.refl _ _).alloc hw1 _).trans hB2)⟩
        case measure => simp [intOf]; omega
      · -- the byte 13
        subst h
        have he : esc1 s[k] = [92, 114] := by
          have : s[k] = 13 := UInt8.toNat_inj.1 hx.out
          rw [this]; rfl
        rw [he] at HS
        clear hp he
        go_wp2_with (first | ((with_reducible refine at_append_str hO (s.extract j k) HL1.out hw ?_ ?_ ?_); rfl; rfl; intro d1 w1 hO1 hB1; rw [HR.out] at hO1; have hw1 := Nat.le_trans hw hB1.size; have hw2 : base ≤ (w1.alloc (.cells #[.int .u8 92, .int .u8 114] 5)).heap.size := by simp; omega) | ((with_reducible refine at_append_sl (hO1.alloc (.cells #[.int .u8 92, .int .u8 114] 5)) [92, 114] ⟨w1.heap.size, 0, none⟩ 2 2 rfl (news_of_alloc w1 [92, 114] _ rfl) HL2.out hw2 ?_ ?_ ?_); rfl; rfl; intro d2 w2 hO2 hB2))
        rw [HS.out] at hO2
        go_roundw
        case rel => exact ⟨k + 1, k + 1, Nat.le_refl _, by omega, by go_num, by go_num, hO2, by simp, (hB.trans hB1).trans (((Below.refl _ _).alloc hw1 _).trans hB2)⟩
        case measure => simp [intOf]; omega
      · -- the byte 9
        subst h
        have he : esc1 s[k] = [92, 116] := by
          have : s[k] = 9 := UInt8.toNat_inj.1 hx.out
          rw [this]; rfl
        rw [he] at HS
        clear hp he
        go_wp2_with (first | ((with_reducible refine at_append_str hO (s.extract j k) HL1.out hw ?_ ?_ ?_); rfl; rfl; intro d1 w1 hO1 hB1; rw [HR.out] at hO1; have hw1 := Nat.le_trans hw hB1.size; have hw2 : base ≤ (w1.alloc (.cells #[.int .u8 92, .int .u8 116] 5)).heap.size := by simp; omega) | ((with_reducible refine at_append_sl (hO1.alloc (.cells #[.int .u8 92, .int .u8 116] 5)) [92, 116] ⟨w1.heap.size, 0, none⟩ 2 2 rfl (news_of_alloc w1 [92, 116] _ rfl) HL2.out hw2 ?_ ?_ ?_); rfl; rfl; intro d2 w2 hO2 hB2))
        rw [HS.out] at hO2
        go_roundw
        case rel => exact ⟨k + 1, k + 1, Nat.le_refl _, by omega, by go_num, by go_num, hO2, by simp, (hB.trans hB1).trans (((Below.refl _ _).alloc hw1 _).trans hB2)⟩
        case measure => simp [intOf]; omega
      · -- another control byte
        obtain ⟨h0, h1, h2, h3, h4, h5⟩ := h
        obtain ⟨q, hq⟩ : ∃ q : Nat, Hid (x / 16 = q) := ⟨x / 16, by unfold Hid; rfl⟩
        obtain ⟨r, hr⟩ : ∃ r : Nat, Hid (x % 16 = r) := ⟨x % 16, by unfold Hid; rfl⟩
        have he : esc1 s[k] = [92, 117, 48, 48, hexd q, hexd r] := by
          unfold esc1
          rw [hx.out, hq.out, hr.out, if_neg (by omega), if_neg (by omega), if_neg h1, if_neg h2, if_neg h3, if_neg h4, if_neg h5]
        rw [he] at HS
        have e0 : ((x : Int) == 34) = false := beq_eq_false_iff_ne.2 (by omega)
        have e1 : ((x : Int) == 92) = false := beq_eq_false_iff_ne.2 (by omega)
        have e2 : ((x : Int) == 8) = false := beq_eq_false_iff_ne.2 (by omega)
        have e3 : ((x : Int) == 12) = false := beq_eq_false_iff_ne.2 (by omega)
        have e4 : ((x : Int) == 10) = false := beq_eq_false_iff_ne.2 (by omega)
        have e5 : ((x : Int) == 13) = false := beq_eq_false_iff_ne.2 (by omega)
        have e6 : ((x : Int) == 9) = false := beq_eq_false_iff_ne.2 (by omega)
        have h6 : (x : Int) < 32 := by omega
        have i1 := hex_idx q (by have := hq.out; omega)
        have i2 := hex_idx r (by have := hr.out; omega)
        have i3 := and15 x h0 r hr.out
        have i4 : (x : Int) / 16 = (q : Int) := by have := hq.out; omega
        clear hp h1 h2 h3 h4 h5 he
        go_wp2_with (first | ((with_reducible refine at_append_str hO (s.extract j k) HL1.out hw ?_ ?_ ?_); rfl; rfl; intro d1 w1 hO1 hB1; rw [HR.out] at hO1; have hw1 := Nat.le_trans hw hB1.size))
        refine wp_region_held_drew (S := fun _ => True) (by kernel_rfl) trivial (fun hHeld => ?_)
        refine wpAnyH_take (i := 0) (v := d1) rfl (by kernel_rfl) (by kernel_rfl) (by kernel_rfl) (fun _ _ _ h => h) (Or.inl ⟨by rfl, fun w' _ => by go_simp⟩) hHeld ?_
        refine wpAnyH_take (i := 1) (v := .int .u8 (x : Int)) rfl (by kernel_rfl) (by kernel_rfl) (by kernel_rfl) (fun _ _ _ h => h) (Or.inl ⟨by rfl, fun w' _ => by go_simp⟩) hHeld ?_
        try simp only [Act.put, List.setIfInBounds_toArray, List.set_cons_zero, List.set_cons_succ]
        refine wpAnyH_take (i := 2) (v := .int .u8 (q : Int)) rfl (by kernel_rfl) (by kernel_rfl) (by kernel_rfl) (fun _ _ _ h => h) (Or.inl ⟨by rfl, fun w' _ => by go_simp⟩) hHeld ?_
        try simp only [Act.put, List.setIfInBounds_toArray, List.set_cons_zero, List.set_cons_succ]
        refine wpAnyH_take (i := 3) (v := .int .u8 ((hexd q).toNat : Int)) rfl (by kernel_rfl) (by kernel_rfl) (by kernel_rfl) (fun _ _ _ h => h) (Or.inl ⟨by rfl, fun w' _ => ?_⟩) hHeld ?_
        · go_simp
        try simp only [Act.put, List.setIfInBounds_toArray, List.set_cons_zero, List.set_cons_succ]
        refine wpAnyH_take (i := 4) (v := .int .u8 (x : Int)) rfl (by kernel_rfl) (by kernel_rfl) (by kernel_rfl) (fun _ _ _ h => h) (Or.inl ⟨by rfl, fun w' _ => by go_simp⟩) hHeld ?_
        try simp only [Act.put, List.setIfInBounds_toArray, List.set_cons_zero, List.set_cons_succ]
        refine wpAnyH_take (i := 5) (v := .int .u8 (r : Int)) rfl (by kernel_rfl) (by kernel_rfl) (by kernel_rfl) (fun _ _ _ h => h) (Or.inl ⟨by rfl, fun w' _ => ?_⟩) hHeld ?_
        · go_simp
        try simp only [Act.put, List.setIfInBounds_toArray, List.set_cons_zero, List.set_cons_succ]
        refine wpAnyH_take (i := 6) (v := .int .u8 ((hexd r).toNat : Int)) rfl (by kernel_rfl) (by kernel_rfl) (by kernel_rfl) (fun _ _ _ h => h) (Or.inl ⟨by rfl, fun w' _ => ?_⟩) hHeld ?_
        · go_simp
        try simp only [Act.put, List.setIfInBounds_toArray, List.set_cons_zero, List.set_cons_succ]
        refine wpAnyH_ready (rs := [7]) (by kernel_rfl) (by simp) (AllReadyH.cons rfl (fun K hK => ?_) AllReadyH.nil)
        go_simp
        refine hK.out _ _ trivial (fun _ => ?_)
        clear hK K
        try simp only [Act.put, List.setIfInBounds_toArray, List.set_cons_zero, List.set_cons_succ]
        have hw2 : base ≤ ((w1.alloc (.cells #[.int .u8 92, .int .u8 117, .int .u8 48, .int .u8 48, .int .u8 (hexd q).toNat, .int .u8 (hexd r).toNat] 5)).drew).heap.size := by show base ≤ (w1.alloc _).heap.size; simp; omega
        have hO2 : Owns ((w1.alloc (.cells #[.int .u8 92, .int .u8 117, .int .u8 48, .int .u8 48, .int .u8 (hexd q).toNat, .int .u8 (hexd r).toNat] 5)).drew) base d1 _ := hO1.alloc _
        refine wpAnyH_ready (rs := [8]) (by kernel_rfl) (by simp) (AllReadyH.cons rfl (fun K hK => ?_) AllReadyH.nil)
        rw [if_pos (by rfl)]
        refine wp_append_sl (.tmp 34) (.tmp 41) rfl hO2 [92, 117, 48, 48, hexd q, hexd r] ⟨w1.heap.size, 0, none⟩ 6 6 rfl (news_of_alloc w1 _ _ rfl) HL6.out hw2 rfl rfl ?_
        intro d3 w3 hO3 hB3
        refine hK.out _ _ trivial (fun _ => ?_)
        clear hK K
        refine wpAnyH_take (i := 9) (v := d3) rfl (by kernel_rfl) (by kernel_rfl) (by kernel_rfl) (fun _ _ _ h => h) (Or.inl ⟨by rfl, fun w' _ => by go_simp⟩) trivial ?_
        refine wpAnyH_done (by kernel_rfl) ?_ _
        change Exit.inBlock _ _ _ (Act.put (Act.put _ (some 42) _) (some 0) _) _
        simp only [Act.put, List.setIfInBounds_toArray, List.set_cons_zero, List.set_cons_succ]
        rw [HS.out] at hO3
        go_wp2
        go_roundw
        case rel => exact ⟨k + 1, k + 1, Nat.le_refl _, by omega, by go_num, by go_num, hO3, by simp, (hB.trans hB1).trans ((((Below.refl _ _).alloc hw1 _).drew).trans hB3)⟩
        case measure => simp [intOf]; omega
    · have hks : k = s.size := by omega
      subst hks
      have HR := (id (step_run xs s j s.size hjk hp) : Hid _)
      have ht : s.data.toList.take s.size = s.data.toList := List.take_of_length_le (by simp)
      rw [ht] at HR
      have hle := esc_take_le s j
      have hsz : (s.extract j s.size).size ≤ s.size := by rw [ByteArray.size_extract]; omega
      have hl1 : (xs ++ esc (s.data.toList.take j)).length + (s.extract j s.size).size ≤ 140737488355328 := by rw [List.length_append]; omega
      have HL1 := (id hl1 : Hid _)
      clear hl1 hsz hle hp ht
      go_wp2_with (first | ((with_reducible refine at_append_str hO (s.extract j s.size) HL1.out hw ?_ ?_ ?_); rfl; rfl; intro d1 w1 hO1 hB1; rw [HR.out] at hO1))
      go_ret
      exact ⟨d1, rfl, hO1, hB.trans hB1⟩

/-- the door to it -/
theorem zz_any (w : World) (base : Nat) (v : Value) (xs : List UInt8) (s : ByteArray) (hown : Owns w base v xs) (hbase : base ≤ w.heap.size) (hl : xs.length + 6 * s.size ≤ 1000000000000) :
    Calls Try.prog 7 #[v, .string s] w fun e w' => ∃ v', e = .returned v' ∧ Owns w' base v' (xs ++ esc s.data.toList) ∧ Below base w w' := by
  go_enter Try.func7, Try.ntmps7
  go_wp2_with fail
  refine (appendEscaped_any w base v xs s hown hbase hl).mono ?_
  rintro e w1 ⟨v1, rfl, h1, h2⟩
  go_wp2_with fail
  go_ret
  exact ⟨v1, rfl, h1, h2⟩
end Go.Proofs.Qxb6630348a
