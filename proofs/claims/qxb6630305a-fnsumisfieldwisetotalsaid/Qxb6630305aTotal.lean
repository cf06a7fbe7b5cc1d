import Derived.Test.Qxb6630305aModel
import Derived.Test.Qxb6630305aByu
import Derived.Deep.RegionHeld3
namespace Go.Proofs.Qxb6630305a
set_option linter.unusedSimpArgs false
open Go.RowKit

theorem model_top (W : World) (v : Value) (n : Nat) (C : Nat → Nat → Int) (R : Nat → Bool) (h : Figs W v n C R) (hC : ∀ i j, i < n → j < 14 → -9223372036854775808 ≤ C i j ∧ C i j ≤ 9223372036854775807) (w : World) (hb : Below W.heap.size W w) :
    Calls Try.prog 9 #[v, .int .i64 0, .int .i64 (n : Int)] w fun e w' => e = .returned (.agg (Tot C R 0 n)) ∧ Below w.heap.size w w' := by
  have := model_any W v n C R h hC n 0 n w (Nat.le_refl _) (by omega) hb
  rw [Nat.zero_add] at this
  exact this

theorem range_34 {w : World} {b : Nat} {c : List Value} (h : w.heap[b]? = some (.cells c.toArray 34 (0, 0))) : w.rangeAt b 0 c := fun j v hv => by
  rw [Nat.zero_add, cell_of_row _ _ _ _ _ _ h]
  simpa using hv

set_option maxHeartbeats 2000000 in
set_option maxRecDepth 100000 in
theorem total_walk (w : World) (v : Value) (n : Nat) (C : Nat → Nat → Int) (R : Nat → Bool) (h : Figs w v n C R) (hC : ∀ i j, i < n → j < 14 → -9223372036854775808 ≤ C i j ∧ C i j ≤ 9223372036854775807) :
    Calls Try.prog 3 #[v] w fun e w' => e = .returned (.bool true) ∧ Below w.heap.size w w' := by
  obtain ⟨ao, c, hv, hn, hc⟩ := id h
  subst hv
  go_enter Try.func3, Try.ntmps3
  go_wp2_with fail
  refine (bytesF_any w _ n C R h).mono ?_
  rintro e w' ⟨⟨b, rfl⟩, rfl⟩
  cases b
  · go_wp2_with fail
    go_ret
    exact ⟨rfl, Below.refl _ _⟩
  go_wp2_with fail
  refine (tooBig_any w w _ n C R h (Below.refl _ _)).mono ?_
  rintro e w1 ⟨⟨b, rfl⟩, hb1⟩
  cases b
  rotate_left
  · go_wp2_with fail
    go_ret
    exact ⟨rfl, hb1⟩
  go_wp2_with fail
  refine (toFigures_any w w1 _ n C R h hb1).mono ?_
  rintro e w2 ⟨⟨fv, rfl, hF2⟩, hb2⟩
  obtain ⟨fa, rfl, hF2⟩ := hF2.form
  have hB2 : Below w.heap.size w w2 := hb1.trans (hb2.mono hb1.size)
  clear hb1 hb2
  go_wp2_with fail
  have hI := hF2.part (by omega) 0 n (by omega) fa n (fun _ b e => by rw [e])
  refine (sum_part w2 _ 0 n C R hI).mono ?_
  rintro e w3 ⟨rfl, hb3⟩
  have hB3 : Below w.heap.size w w3 := hB2.trans (hb3.mono hB2.size)
  clear hI hF2 hB2 hb3
  go_wp2_with (first | ((with_reducible refine at_store_new (c' := Fs C R 0 n) ?_ ?_ ?_ ?_ ?_ ?_); rfl; rfl; kernel_rfl; rfl; rfl))
  have hB4 := hB3.alloc hB3.size (.cells (Fs C R 0 n) 30)
  have hW4 := heap_alloc_new w3 (.cells (Fs C R 0 n) 30)
  generalize w3.heap.size = b4 at *
  generalize w3.alloc (.cells (Fs C R 0 n) 30) = w4 at *
  clear hB3
  refine (model_top w _ n C R h hC w4 hB4).mono ?_
  rintro e w5 ⟨rfl, hb5⟩
  have hB5 : Below w.heap.size w w5 := hB4.trans (hb5.mono hB4.size)
  have hW5 := block_below hW4 hb5
  clear hB4 hW4 hb5
  go_wp2_with (first | ((with_reducible refine at_store_new (c' := Tot C R 0 n) ?_ ?_ ?_ ?_ ?_ ?_); rfl; rfl; kernel_rfl; rfl; rfl))
  have hW6 : (w5.alloc (.cells (Tot C R 0 n) 34)).heap[b4]? = some (.cells (Fs C R 0 n) 30) := by rw [Below.heap_alloc _ _ _ (block_lt hW5)]; exact hW5
  have hA6 := heap_alloc_new w5 (.cells (Tot C R 0 n) 34)
  have hB6 := hB5.alloc hB5.size (.cells (Tot C R 0 n) 34)
  generalize w5.heap.size = b5 at *
  generalize w5.alloc (.cells (Tot C R 0 n) 34) = w6 at *
  clear hW5 hB5
  obtain ⟨cs, hcs⟩ : ∃ cs : List Value, Hid (cs.toArray = Fs C R 0 n) := ⟨(Fs C R 0 n).toList, rfl⟩
  obtain ⟨ct, hct⟩ : ∃ ct : List Value, Hid (ct.toArray = Tot C R 0 n) := ⟨(Tot C R 0 n).toList, rfl⟩
  rw [← hcs.out] at hW6
  rw [← hct.out] at hA6
  have r4 := range_Fs hW6
  have r5 := range_34 hA6
  clear hW6 hA6
  have hi := size_cs hcs
  have hi34 : (Try.prog.info? 34).map (·.size) = some ct.length := by
    have h15 : ct.length = 15 := by have := congrArg Array.size hct.out; simpa [Tot, ccells] using this
    rw [Try.size34, h15]
  have heq := eql_ca (ca := ct.toArray) hct
  refine wp_region_held_drew (S := fun w' => w'.rangeAt b4 0 cs ∧ w'.rangeAt b5 0 ct ∧ Below w.heap.size w w') (by kernel_rfl) ⟨r4, r5, hB6.drew⟩ (fun hHeld => ?_)
  refine wpAnyH_take (i := 0) (v := .agg cs.toArray) rfl (by kernel_rfl) (by kernel_rfl) (by kernel_rfl) (fun _ _ _ h => h) (yieldsIf_load_mid (by rfl) 30 (.tmp 4) rfl b4 0 rfl cs _ (fun _ h => h.1) Try.underlying30 rfl hi) hHeld ?_
  refine wpAnyH_take (i := 2) (v := .agg ct.toArray) rfl (by kernel_rfl) (by kernel_rfl) (by kernel_rfl) (fun _ _ _ h => h) (yieldsIf_load_mid (by rfl) 34 (.tmp 5) rfl b5 0 rfl ct _ (fun _ h => h.2.1) Try.underlying34 rfl hi34) hHeld ?_
  try simp only [Act.put, List.setIfInBounds_toArray, List.set_cons_zero, List.set_cons_succ]
  refine wpAnyH_ready (rs := [1]) (by kernel_rfl) (by simp) (AllReadyH.cons rfl (fun K hK => ?_) AllReadyH.nil)
  go_simp
  refine (countsOf_cs _ cs ct.toArray _ _ _ _ _ _ _ _ _ _ _ hcs hct).mono ?_
  rintro e w7 ⟨rfl, hb7⟩
  refine hK.out _ _ (two_step hHeld (Nat.le_refl _) hb7) (fun hHeld2 => ?_)
  clear hK K hHeld hb7
  try simp only [Act.put, List.setIfInBounds_toArray, List.set_cons_zero, List.set_cons_succ]
  refine wpAnyH_take (i := 3) (v := .bool true) rfl (by kernel_rfl) (by kernel_rfl) (by kernel_rfl) (fun _ _ _ h => h) (Or.inl ⟨by rfl, fun w' _ => by go_simp⟩) hHeld2 ?_
  refine wpAnyH_take (i := 4) (v := .bool true) rfl (by kernel_rfl) (by kernel_rfl) (by kernel_rfl) (fun _ _ _ h => h) (Or.inl ⟨by rfl, fun w' _ => by go_simp⟩) hHeld2 ?_
  try simp only [Act.put, List.setIfInBounds_toArray, List.set_cons_zero, List.set_cons_succ]
  refine wpAnyH_take (i := 5) (v := .agg cs.toArray) rfl (by kernel_rfl) (by kernel_rfl) (by kernel_rfl) (fun _ _ _ h => h) (yieldsIf_load_mid (by rfl) 30 (.tmp 4) rfl b4 0 rfl cs _ (fun _ h => h.1) Try.underlying30 rfl hi) hHeld2 ?_
  try simp only [Act.put, List.setIfInBounds_toArray, List.set_cons_zero, List.set_cons_succ]
  refine wpAnyH_ready (rs := [6]) (by kernel_rfl) (by simp) (AllReadyH.cons rfl (fun K hK => ?_) AllReadyH.nil)
  go_simp
  refine (namesNoStep_cs _ cs _ _ hcs).mono ?_
  rintro e w8 ⟨rfl, hb8⟩
  refine hK.out _ _ (two_step hHeld2 (Nat.le_refl _) hb8) (fun hHeld3 => ?_)
  clear hK K hHeld2 hb8
  try simp only [Act.put, List.setIfInBounds_toArray, List.set_cons_zero, List.set_cons_succ]
  refine wpAnyH_take (i := 7) (v := .bool true) rfl (by kernel_rfl) (by kernel_rfl) (by kernel_rfl) (fun _ _ _ h => h) (Or.inl ⟨by rfl, fun w' _ => by go_simp⟩) hHeld3 ?_
  change wpAnyH _ _ _ _ _ _ _ (Act.put _ (some 26) _) _
  try simp only [Act.put, List.setIfInBounds_toArray, List.set_cons_zero, List.set_cons_succ]
  refine wpAnyH_take (i := 8) (v := .bool true) rfl (by kernel_rfl) (by kernel_rfl) (by kernel_rfl) (fun _ _ _ h => h) (Or.inl ⟨by rfl, fun w' _ => by go_simp⟩) hHeld3 ?_
  change wpAnyH _ _ _ _ _ _ _ (Act.put _ (some 2) _) _
  refine wpAnyH_done (by kernel_rfl) ?_ _
  try simp only [Act.put, List.setIfInBounds_toArray, List.set_cons_zero, List.set_cons_succ]
  go_wp2_with fail
  go_ret
  exact ⟨rfl, hHeld3.2.2⟩
end Go.Proofs.Qxb6630305a
