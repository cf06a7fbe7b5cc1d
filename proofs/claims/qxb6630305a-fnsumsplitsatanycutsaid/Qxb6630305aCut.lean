import Derived.Test.Qxb6630305aPart
import Derived.Test.Qxb6630305aByt
import Derived.Deep.RegionHeld3
import Derived.Deep.MidRow
import Derived.Deep.RegionWith
namespace Go.Proofs.Qxb6630305a
set_option linter.unusedSimpArgs false
open Go.RowKit

set_option maxHeartbeats 2000000 in
set_option maxRecDepth 100000 in
theorem cut_walk (w : World) (v : Value) (k : Int) (n : Nat) (C : Nat → Nat → Int) (R : Nat → Bool) (h : Figs w v n C R) (hC : ∀ i j, i < n → j < 14 → -9223372036854775808 ≤ C i j ∧ C i j ≤ 9223372036854775807) (hcap : ∀ ao c, v = .slice ao n c → n ≤ c) :
    Calls Try.prog 4 #[v, .int .i64 k] w fun e w' => e = .returned (.bool true) ∧ Below w.heap.size w w' := by
  obtain ⟨ao, c, hv, hn, hc⟩ := id h
  have hnc := hcap _ _ hv
  clear hcap
  subst hv
  go_enter Try.func4, Try.ntmps4
  go_wp2_with fail
  refine (bytesS_any w _ _ n C R h).mono ?_
  rintro e w' ⟨⟨b, rfl⟩, rfl⟩
  cases b
  · go_wp2_with fail
    go_ret
    exact ⟨rfl, Below.refl _ _⟩
  go_wp2_with fail
  refine (tooBig_any w w _ n C R h (Below.refl _ _)).mono ?_
  rintro e w1 ⟨⟨b, rfl⟩, hb1⟩
  cases b
  rotate_left
  · go_wp2_with fail
    go_ret
    exact ⟨rfl, hb1⟩
  by_cases hk0 : k < 0
  · go_wp2_with fail
    go_ret
    exact ⟨rfl, hb1⟩
  by_cases hkn : (n : Int) < k
  · go_wp2_with fail
    go_ret
    exact ⟨rfl, hb1⟩
  obtain ⟨m, rfl⟩ : ∃ m : Nat, k = m := ⟨k.toNat, by omega⟩
  have hmn : m ≤ n := by omega
  go_wp2_with fail
  refine (toFigures_any w w1 _ n C R h hb1).mono ?_
  rintro e w2 ⟨⟨fv, rfl, hF2⟩, hb2⟩
  obtain ⟨fa, rfl, hF2⟩ := hF2.form
  have hB2 : Below w.heap.size w w2 := hb1.trans (hb2.mono hb1.size)
  clear hb1 hb2 hk0 hkn
  go_wp2_with fail
  have hI := hF2.part (by omega) 0 n (by omega) fa n (fun _ b e => by rw [e])
  refine (sum_part w2 _ 0 n C R hI).mono ?_
  rintro e w3 ⟨rfl, hb3⟩
  have hB3 : Below w.heap.size w w3 := hB2.trans (hb3.mono hB2.size)
  have hF3 := hF2.below hb3
  clear hI hF2 hB2 hb3
  go_wp2_with (first | ((with_reducible refine at_store_new (c' := Fs C R 0 n) ?_ ?_ ?_ ?_ ?_ ?_); rfl; rfl; kernel_rfl; rfl; rfl))
  -- left
  have hF4 := hF3.below ((Below.refl _ _).alloc (Nat.le_refl _) (.cells (Fs C R 0 n) 30))
  have hB4 := hB3.alloc hB3.size (.cells (Fs C R 0 n) 30)
  have hW4 := heap_alloc_new w3 (.cells (Fs C R 0 n) 30)
  generalize hb6 : w3.heap.size = b6 at *
  generalize w3.alloc (.cells (Fs C R 0 n) 30) = w4 at *
  clear hF3 hB3 hb6
  have hI := hF4.part (by omega) 0 m (by omega) fa n (fun _ b e => by rw [e])
  refine (sum_part w4 _ 0 m C R hI).mono ?_
  rintro e w5 ⟨rfl, hb5⟩
  have hB5 : Below w.heap.size w w5 := hB4.trans (hb5.mono hB4.size)
  have hF5 := hF4.below hb5
  have hW5 := block_below hW4 hb5
  clear hI hF4 hB4 hW4 hb5 w4
  obtain ⟨a1, hs1, hI1⟩ := hF5.tail (by omega) m hmn
  go_wp2_with (first | ((with_reducible refine at_store_new (c' := Fs C R 0 m) ?_ ?_ ?_ ?_ ?_ ?_); rfl; rfl; kernel_rfl; rfl; rfl))
  -- right
  have hW6 : (w5.alloc (.cells (Fs C R 0 m) 30)).heap[b6]? = some (.cells (Fs C R 0 n) 30) := by rw [Below.heap_alloc _ _ _ (block_lt hW5)]; exact hW5
  have hI6 := hI1.below ((Below.refl _ _).alloc (Nat.le_refl _) (.cells (Fs C R 0 m) 30))
  have hB6 := hB5.alloc hB5.size (.cells (Fs C R 0 m) 30)
  have hL6 := heap_alloc_new w5 (.cells (Fs C R 0 m) 30)
  generalize hb7 : w5.heap.size = b7 at *
  generalize w5.alloc (.cells (Fs C R 0 m) 30) = w6 at *
  clear hF5 hB5 hb7 hI1 hs1 hW5
  refine (sum_part w6 _ m (n - m) C R hI6).mono ?_
  rintro e w7 ⟨rfl, hb7⟩
  have hB7 : Below w.heap.size w w7 := hB6.trans (hb7.mono hB6.size)
  have hW7 := block_below hW6 hb7
  have hL7 := block_below hL6 hb7
  clear hI6 hB6 hW6 hL6 hb7 w6
  -- the pair
  have l7 := block_lt hL7
  have l6 := block_lt hW7
  have hmk := mk_pair
  have hR9 := row_pair0 (w7.alloc (.cells (Fs C R m (n - m)) 30))
  have hL9 : ((w7.alloc (.cells (Fs C R m (n - m)) 30)).alloc (.cells pair0 30)).heap[b7]? = some (.cells (Fs C R 0 m) 30) := by
    rw [Below.heap_alloc _ _ _ (by simp; omega), Below.heap_alloc _ _ _ l7]; exact hL7
  have hW9 : ((w7.alloc (.cells (Fs C R m (n - m)) 30)).alloc (.cells pair0 30)).heap[b6]? = some (.cells (Fs C R 0 n) 30) := by
    rw [Below.heap_alloc _ _ _ (by simp; omega), Below.heap_alloc _ _ _ l6]; exact hW7
  have hr9 : ((w7.alloc (.cells (Fs C R m (n - m)) 30)).alloc (.cells pair0 30)).heap[w7.heap.size]? = some (.cells (Fs C R m (n - m)) 30) := heap_alloc2_old _ _ _
  have hB9 : Below w.heap.size w ((w7.alloc (.cells (Fs C R m (n - m)) 30)).alloc (.cells pair0 30)) := (hB7.alloc hB7.size _).alloc (by have := hB7.size; simp; omega) _
  have hsz7 := hB7.size
  rw [World.size_alloc] at hR9
  have HL7 := loads_Fs hL9
  have HS0 := stores_row hR9 (o := 0) (by omega) C R 0 m
  have HL8 := loads_Fs (w := ((w7.alloc (.cells (Fs C R m (n - m)) 30)).alloc (.cells pair0 30)).setCells (w7.heap.size + 1) 0 (Fs C R 0 m).toList) (b := w7.heap.size) (C := C) (R := R) (lo := m) (m := n - m) (by rw [block_setCells _ _ _ _ _ (by omega)]; exact hr9)
  have HS1 := stores_row (rowIs_setCells (Fs C R 0 m).toList 0 hR9) (o := 18) (by omega) C R m (n - m)
  go_wp2_with (first | ((with_reducible refine at_store_new (c' := Fs C R m (n - m)) ?_ ?_ ?_ ?_ ?_ ?_); rfl; rfl; kernel_rfl; rfl; rfl) | ((with_reducible refine HL7.use ?_ ?_); rfl) | ((with_reducible refine HL8.use ?_ ?_); rfl) | ((with_reducible refine HS0.use ?_ ?_ ?_ ?_); rfl; rfl; rfl) | ((with_reducible refine HS1.use ?_ ?_ ?_ ?_); rfl; rfl; rfl))
  -- again
  clear hmk HL7 HS0 HL8 HS1 hL9 hr9 hL7
  have hW10 : ((((w7.alloc (.cells (Fs C R m (n - m)) 30)).alloc (.cells pair0 30)).setCells (w7.heap.size + 1) 0 (Fs C R 0 m).toList).setCells (w7.heap.size + 1) 18 (Fs C R m (n - m)).toList).heap[b6]? = some (.cells (Fs C R 0 n) 30) := by
    rw [block_setCells _ _ _ _ _ (by omega), block_setCells _ _ _ _ _ (by omega)]; exact hW9
  have hB10 := below_setCells (w7.heap.size + 1) (by omega) (Fs C R m (n - m)).toList 18 (below_setCells (w7.heap.size + 1) (by omega) (Fs C R 0 m).toList 0 hB9)
  refine (again_any hR9 C R n m hmn).mono ?_
  generalize (((w7.alloc (.cells (Fs C R m (n - m)) 30)).alloc (.cells pair0 30)).setCells (w7.heap.size + 1) 0 (Fs C R 0 m).toList).setCells (w7.heap.size + 1) 18 (Fs C R m (n - m)).toList = w10 at *
  rintro e w11 ⟨rfl, hb11⟩
  have hB11 : Below w.heap.size w w11 := hB10.trans (hb11.mono hB10.size)
  have hW11 := block_below hW10 hb11
  clear hW10 hB10 hb11 hR9 hW9 hB9 w10 hB7 hW7
  go_wp2_with (first | ((with_reducible refine at_store_new (c' := Fs C R 0 n) ?_ ?_ ?_ ?_ ?_ ?_); rfl; rfl; kernel_rfl; rfl; rfl))
  have hW12 : (w11.alloc (.cells (Fs C R 0 n) 30)).heap[b6]? = some (.cells (Fs C R 0 n) 30) := by rw [Below.heap_alloc _ _ _ (block_lt hW11)]; exact hW11
  have hA12 := heap_alloc_new w11 (.cells (Fs C R 0 n) 30)
  have hB12 := hB11.alloc hB11.size (.cells (Fs C R 0 n) 30)
  generalize w11.heap.size = b10 at *
  generalize w11.alloc (.cells (Fs C R 0 n) 30) = w12 at *
  clear hW11 hB11
  obtain ⟨cs, hcs⟩ : ∃ cs : List Value, Hid (cs.toArray = Fs C R 0 n) := ⟨(Fs C R 0 n).toList, rfl⟩
  rw [← hcs.out] at hW12 hA12
  have r6 := range_Fs hW12
  have r10 := range_Fs hA12
  clear hW12 hA12
  have hu := Try.underlying30
  have hi := size_cs hcs
  obtain ⟨ca, hca⟩ : ∃ ca : Array Value, Hid (ca = ccells (fun j => sumTo (fun i => C (0 + i) j) n) (anyTo (fun i => R (0 + i)) n)) := ⟨_, rfl⟩
  have hne := neq_ca hca
  refine wp_region_held_drew (S := fun w' => w'.rangeAt b6 0 cs ∧ w'.rangeAt b10 0 cs ∧ Below w.heap.size w w') (by kernel_rfl) ⟨r6, r10, hB12.drew⟩ (fun hHeld => ?_)
  refine wpAnyH_take (i := 0) (v := .agg cs.toArray) rfl (by kernel_rfl) (by kernel_rfl) (by kernel_rfl) (fun _ _ _ h => h) (yieldsIf_load_mid (by rfl) 30 (.tmp 6) rfl b6 0 rfl cs _ (fun _ h => h.1) hu rfl hi) hHeld ?_
  refine wpAnyH_take (i := 2) (v := .agg cs.toArray) rfl (by kernel_rfl) (by kernel_rfl) (by kernel_rfl) (fun _ _ _ h => h) (yieldsIf_load_mid (by rfl) 30 (.tmp 10) rfl b10 0 rfl cs _ (fun _ h => h.2.1) hu rfl hi) hHeld ?_
  try simp only [Act.put, List.setIfInBounds_toArray, List.set_cons_zero, List.set_cons_succ]
  refine wpAnyH_ready (rs := [1]) (by kernel_rfl) (by simp) (AllReadyH.cons rfl (fun K hK => ?_) AllReadyH.nil)
  go_simp
  refine (countsOf_cs _ cs ca _ _ _ _ _ _ _ _ _ _ _ hcs hca).mono ?_
  rintro e w13 ⟨rfl, hb13⟩
  refine hK.out _ _ (two_step hHeld (Nat.le_refl _) hb13) (fun hHeld2 => ?_)
  clear hK K hHeld hb13
  try simp only [Act.put, List.setIfInBounds_toArray, List.set_cons_zero, List.set_cons_succ]
  refine wpAnyH_ready (rs := [3]) (by kernel_rfl) (by simp) (AllReadyH.cons rfl (fun K hK => ?_) AllReadyH.nil)
  go_simp
  refine (countsOf_cs _ cs ca _ _ _ _ _ _ _ _ _ _ _ hcs hca).mono ?_
  rintro e w14 ⟨rfl, hb14⟩
  refine hK.out _ _ (two_step hHeld2 (Nat.le_refl _) hb14) (fun hHeld3 => ?_)
  clear hK K hHeld2 hb14
  try simp only [Act.put, List.setIfInBounds_toArray, List.set_cons_zero, List.set_cons_succ]
  refine wpAnyH_take (i := 4) (v := .bool false) rfl (by kernel_rfl) (by kernel_rfl) (by kernel_rfl) (fun _ _ _ h => h) (Or.inl ⟨by rfl, fun w' _ => ?_⟩) hHeld3 ?_
  · go_simp
  refine wpAnyH_done (by kernel_rfl) ?_ _
  try simp only [Act.put, List.setIfInBounds_toArray, List.set_cons_zero, List.set_cons_succ]
  have HL6 := loads_range (ty := 30) hHeld3.1 (by kernel_rfl) hi
  go_wp2_with (first | ((with_reducible refine HL6.use ?_ ?_); rfl))
  refine (namesNoStep_cs _ cs _ _ hcs).mono ?_
  rintro e w15 ⟨rfl, hb15⟩
  have hHeld4 := two_step hHeld3 (Nat.le_refl _) hb15
  clear hHeld3 hb15 HL6
  have HL10 := loads_range (ty := 30) hHeld4.2.1 (by kernel_rfl) hi
  go_wp2_with (first | ((with_reducible refine HL10.useG ?_ ?_ ?_); rfl; rfl))
  refine (namesNoStep_cs _ cs _ _ hcs).mono ?_
  rintro e w16 ⟨rfl, hb16⟩
  have hB16 := (two_step hHeld4 (Nat.le_refl _) hb16).2.2
  clear hHeld4 hb16 HL10 hne hcs hca r6 r10 hB12 hi
  by_cases hn0 : n = 0
  · subst hn0
    go_wp2_with fail
    go_ret
    exact ⟨rfl, hB16⟩
  obtain ⟨b, off, ha, hf⟩ := hc (by omega)
  subst ha
  have hpos : (0 : Int) < (n : Int) := by omega
  have hc1 : (1 : Int) ≤ (c : Int) := by omega
  go_wp2_with fail
  have hF1 : Figs w (.slice (some ⟨b, off, none⟩) 1 c) 1 C R := ⟨_, _, rfl, by omega, fun _ => ⟨b, off, rfl, fun i hi => hf i (by omega)⟩⟩
  refine (toFigures_any w w16 _ 1 C R hF1 hB16).mono ?_
  rintro e w17 ⟨⟨fv1, rfl, hF17⟩, hb17⟩
  obtain ⟨fa1, rfl, hF17⟩ := hF17.form
  have hB17 : Below w.heap.size w w17 := hB16.trans (hb17.mono hB16.size)
  clear hF1 hb17 hB16 hpos hc1
  go_wp2_with fail
  refine (sum_part w17 _ 0 1 C R (hF17.part (by omega) 0 1 (by omega) fa1 1 (fun _ b e => by rw [e]))).mono ?_
  rintro e w18 ⟨rfl, hb18⟩
  have hB18 : Below w.heap.size w w18 := hB17.trans (hb18.mono hB17.size)
  clear hF17 hb18 hB17
  go_wp2_with (first | ((with_reducible refine at_store_new (c' := Fs C R 0 1) ?_ ?_ ?_ ?_ ?_ ?_); rfl; rfl; kernel_rfl; rfl; rfl))
  have hA19 := heap_alloc_new w18 (.cells (Fs C R 0 1) 30)
  have hB19 := hB18.alloc hB18.size (.cells (Fs C R 0 1) 30)
  generalize w18.heap.size = b11 at *
  generalize w18.alloc (.cells (Fs C R 0 1) 30) = w19 at *
  clear hB18
  obtain ⟨cs1, hcs1⟩ : ∃ cs1 : List Value, Hid (cs1.toArray = Fs C R 0 1) := ⟨(Fs C R 0 1).toList, rfl⟩
  rw [← hcs1.out] at hA19
  have r11 := range_Fs hA19
  have hf0 := hf 0 (by omega)
  rw [Nat.zero_mul, Nat.add_zero] at hf0
  obtain ⟨csz, x1, x2, x3, y1, y2, y3, z1, z2, z3, hcsz, rz⟩ := hf0.range hB19
  clear hA19 hf hf0
  have hi1 := size_cs hcs1
  have hiz := size_cs42 hcsz
  obtain ⟨cb, hcb⟩ : ∃ cb : Array Value, Hid (cb = ccells (C 0) (R 0)) := ⟨_, rfl⟩
  have hcb1 : Hid (cb = ccells (fun j => sumTo (fun i => C (0 + i) j) 1) (anyTo (fun i => R (0 + i)) 1)) := by
    have := one_counts C R (fun j hj => hC 0 j (by omega) hj)
    exact hcb.out.trans this.symm
  have hne := neq_ca hcb
  refine wp_region_held_drew (S := fun w' => w'.rangeAt b11 0 cs1 ∧ w'.rangeAt b off csz ∧ Below w.heap.size w w') (by kernel_rfl) ⟨r11, rz, hB19.drew⟩ (fun hHeld => ?_)
  refine wpAnyH_take (i := 0) (v := .agg cs1.toArray) rfl (by kernel_rfl) (by kernel_rfl) (by kernel_rfl) (fun _ _ _ h => h) (yieldsIf_load_mid (by rfl) 30 (.tmp 11) rfl b11 0 rfl cs1 _ (fun _ h => h.1) hu rfl hi1) hHeld ?_
  refine wpAnyH_take (i := 2) (v := .slice (some ⟨b, off, none⟩) n c) rfl (by kernel_rfl) (by kernel_rfl) (by kernel_rfl) (fun _ _ _ h => h) (Or.inl ⟨by rfl, fun w' _ => by go_simp⟩) hHeld ?_
  refine wpAnyH_take (i := 3) (v := .pointer (some ⟨b, off, none⟩)) rfl (by kernel_rfl) (by kernel_rfl) (by kernel_rfl) (fun _ _ _ h => h) (Or.inl ⟨by rfl, fun w' _ => by go_simp⟩) hHeld ?_
  refine wpAnyH_take (i := 4) (v := .agg csz.toArray) rfl (by kernel_rfl) (by kernel_rfl) (by kernel_rfl) (fun _ _ _ h => h) (yieldsIf_load_mid (by rfl) 42 (.tmp 70) rfl b off rfl csz _ (fun _ h => h.2.1) Try.underlying42 rfl hiz) hHeld ?_
  try simp only [Act.put, List.setIfInBounds_toArray, List.set_cons_zero, List.set_cons_succ]
  refine wpAnyH_ready (rs := [1]) (by kernel_rfl) (by simp) (AllReadyH.cons rfl (fun K hK => ?_) AllReadyH.nil)
  go_simp
  refine (countsOf_cs _ cs1 cb _ _ _ _ _ _ _ _ _ _ _ hcs1 hcb1).mono ?_
  rintro e w20 ⟨rfl, hb20⟩
  refine hK.out _ _ (two_step hHeld (Nat.le_refl _) hb20) (fun hHeld2 => ?_)
  clear hK K hHeld hb20
  try simp only [Act.put, List.setIfInBounds_toArray, List.set_cons_zero, List.set_cons_succ]
  refine wpAnyH_ready (rs := [5]) (by kernel_rfl) (by simp) (AllReadyH.cons rfl (fun K hK => ?_) AllReadyH.nil)
  go_simp
  refine (countsOfZ_cs _ csz cb _ _ _ _ _ _ _ _ _ _ _ hcsz hcb).mono ?_
  rintro e w21 ⟨rfl, hb21⟩
  refine hK.out _ _ (two_step hHeld2 (Nat.le_refl _) hb21) (fun hHeld3 => ?_)
  clear hK K hHeld2 hb21
  try simp only [Act.put, List.setIfInBounds_toArray, List.set_cons_zero, List.set_cons_succ]
  refine wpAnyH_take (i := 6) (v := .bool false) rfl (by kernel_rfl) (by kernel_rfl) (by kernel_rfl) (fun _ _ _ h => h) (Or.inl ⟨by rfl, fun w' _ => ?_⟩) hHeld3 ?_
  · go_simp
  refine wpAnyH_done (by kernel_rfl) ?_ _
  try simp only [Act.put, List.setIfInBounds_toArray, List.set_cons_zero, List.set_cons_succ]
  have HL11 := loads_range (ty := 30) hHeld3.1 (by kernel_rfl) hi1
  go_wp2_with (first | ((with_reducible refine HL11.use ?_ ?_); rfl))
  refine (namesNoStep_cs _ cs1 _ _ hcs1).mono ?_
  rintro e w22 ⟨rfl, hb22⟩
  have hB22 := (two_step hHeld3 (Nat.le_refl _) hb22).2.2
  clear hHeld3 hb22 HL11 hne
  go_wp2_with fail
  go_ret
  exact ⟨rfl, hB22⟩
end Go.Proofs.Qxb6630305a
