import Derived.Test.Qxb6630438aParse
import Derived.Test.Qxb6630438aFold
namespace Go.Proofs.Qxb6630438a

theorem lo_lo (c : UInt8) : lo (lo c) = lo c := by
  unfold lo
  by_cases h : 65 ≤ c.toNat ∧ c.toNat ≤ 90
  · rw [if_pos h, if_neg]
    rw [UInt8.toNat_ofNat']; omega
  · rw [if_neg h, if_neg h]

theorem lo_up (c : UInt8) : lo (up c) = lo c := by
  unfold up
  by_cases h : 97 ≤ c.toNat ∧ c.toNat ≤ 122
  · rw [if_pos h]
    have e : (UInt8.ofNat (c.toNat - 32)).toNat = c.toNat - 32 := by rw [UInt8.toNat_ofNat']; omega
    unfold lo
    rw [e, if_pos (by omega), if_neg (by omega)]
    apply UInt8.toNat_inj.1
    rw [UInt8.toNat_ofNat']; omega
  · rw [if_neg h]

theorem map_lo_lo (xs : List UInt8) : (xs.map lo).map lo = xs.map lo := by simp [List.map_map, Function.comp_def, lo_lo]
theorem map_lo_up (xs : List UInt8) : (xs.map up).map lo = xs.map lo := by simp [List.map_map, Function.comp_def, lo_up]

/-- whatever is accepted is a word when folded -/
theorem word_of_parse (xs : List UInt8) (h : (pv xs || pf xs) = true) : word (xs.map lo) = true := by
  unfold pv pf at h
  simp only [Bool.or_eq_true, beq_iff_eq] at h
  rcases h with ((((h | h) | h) | h) | h) | ((((h | h) | h) | h) | h) <;> subst h <;> decide

/-- a byte by its lower case, where that is a letter -/
theorem lo_inv (c : UInt8) (d : UInt8) (h : lo c = d) (_ : 97 ≤ d.toNat ∧ d.toNat ≤ 122) : c = d ∨ c = UInt8.ofNat (d.toNat - 32) := by
  unfold lo at h
  by_cases hc : 65 ≤ c.toNat ∧ c.toNat ≤ 90
  · rw [if_pos hc] at h
    right
    apply UInt8.toNat_inj.1
    rw [← h, UInt8.toNat_ofNat', UInt8.toNat_ofNat']
    omega
  · rw [if_neg hc] at h
    exact Or.inl h

theorem lo_t (c : UInt8) (h : lo c = 116) : c = 116 ∨ c = 84 := lo_inv c 116 h (by decide)
theorem lo_r (c : UInt8) (h : lo c = 114) : c = 114 ∨ c = 82 := lo_inv c 114 h (by decide)
theorem lo_u (c : UInt8) (h : lo c = 117) : c = 117 ∨ c = 85 := lo_inv c 117 h (by decide)
theorem lo_e (c : UInt8) (h : lo c = 101) : c = 101 ∨ c = 69 := lo_inv c 101 h (by decide)
theorem lo_f (c : UInt8) (h : lo c = 102) : c = 102 ∨ c = 70 := lo_inv c 102 h (by decide)
theorem lo_a (c : UInt8) (h : lo c = 97) : c = 97 ∨ c = 65 := lo_inv c 97 h (by decide)
theorem lo_l (c : UInt8) (h : lo c = 108) : c = 108 ∨ c = 76 := lo_inv c 108 h (by decide)
theorem lo_s (c : UInt8) (h : lo c = 115) : c = 115 ∨ c = 83 := lo_inv c 115 h (by decide)

/-- the lists that fold to a word: one law for all that is asked of them -/
theorem words_all (P : List UInt8 → Bool) (h1 : P [116] = true ∧ P [84] = true ∧ P [102] = true ∧ P [70] = true)
    (h4 : ∀ a ∈ [116, 84], ∀ b ∈ [114, 82], ∀ c ∈ [117, 85], ∀ d ∈ [101, 69], P [a, b, c, d] = true)
    (h5 : ∀ a ∈ [102, 70], ∀ b ∈ [97, 65], ∀ c ∈ [108, 76], ∀ d ∈ [115, 83], ∀ e ∈ [101, 69], P [a, b, c, d, e] = true)
    (xs : List UInt8) (h : word (xs.map lo) = true) : P xs = true := by
  unfold word at h
  simp only [Bool.or_eq_true, beq_iff_eq] at h
  rcases h with ((h | h) | h) | h
  · obtain ⟨a, t, rfl, ha, h⟩ := List.map_eq_cons_iff.1 h
    obtain rfl := List.map_eq_nil_iff.1 h
    rcases lo_t a ha with rfl | rfl
    · exact h1.1
    · exact h1.2.1
  · obtain ⟨a, t, rfl, ha, h⟩ := List.map_eq_cons_iff.1 h
    obtain ⟨b, t, rfl, hb, h⟩ := List.map_eq_cons_iff.1 h
    obtain ⟨c, t, rfl, hc, h⟩ := List.map_eq_cons_iff.1 h
    obtain ⟨d, t, rfl, hd, h⟩ := List.map_eq_cons_iff.1 h
    obtain rfl := List.map_eq_nil_iff.1 h
    exact h4 a (by rcases lo_t a ha with rfl | rfl <;> decide) b (by rcases lo_r b hb with rfl | rfl <;> decide) c (by rcases lo_u c hc with rfl | rfl <;> decide) d (by rcases lo_e d hd with rfl | rfl <;> decide)
  · obtain ⟨a, t, rfl, ha, h⟩ := List.map_eq_cons_iff.1 h
    obtain rfl := List.map_eq_nil_iff.1 h
    rcases lo_f a ha with rfl | rfl
    · exact h1.2.2.1
    · exact h1.2.2.2
  · obtain ⟨a, t, rfl, ha, h⟩ := List.map_eq_cons_iff.1 h
    obtain ⟨b, t, rfl, hb, h⟩ := List.map_eq_cons_iff.1 h
    obtain ⟨c, t, rfl, hc, h⟩ := List.map_eq_cons_iff.1 h
    obtain ⟨d, t, rfl, hd, h⟩ := List.map_eq_cons_iff.1 h
    obtain ⟨e, t, rfl, he, h⟩ := List.map_eq_cons_iff.1 h
    obtain rfl := List.map_eq_nil_iff.1 h
    exact h5 a (by rcases lo_f a ha with rfl | rfl <;> decide) b (by rcases lo_a b hb with rfl | rfl <;> decide) c (by rcases lo_l c hc with rfl | rfl <;> decide) d (by rcases lo_s d hd with rfl | rfl <;> decide) e (by rcases lo_e e he with rfl | rfl <;> decide)

/-- the law's own words -/
def truthy (xs : List UInt8) : Bool := word (xs.map lo) && (xs.map lo).head? == some 116
def capital (xs : List UInt8) : Bool := (xs.head? == (xs.map up).head?) && xs.tail == (xs.map lo).tail
def casing (xs : List UInt8) : Bool := xs == xs.map lo || xs == xs.map up || capital xs
def foldB (xs : List UInt8) : Bool := (pv xs || pf xs) == (word (xs.map lo) && casing xs) && pv xs == ((word (xs.map lo) && casing xs) && truthy xs) && (pv (xs.map lo) || pf (xs.map lo)) == word (xs.map lo) && (pv (xs.map up) || pf (xs.map up)) == word (xs.map lo) && pv (xs.map lo) == truthy xs && pv (xs.map up) == truthy xs

theorem foldB_true (xs : List UInt8) : foldB xs = true := by
  cases h : word (xs.map lo)
  · have p1 : (pv xs || pf xs) = false := by
      cases e : (pv xs || pf xs)
      · rfl
      · rw [word_of_parse xs e] at h; cases h
    have p2 : (pv (xs.map lo) || pf (xs.map lo)) = false := by
      cases e : (pv (xs.map lo) || pf (xs.map lo))
      · rfl
      · have := word_of_parse _ e; rw [map_lo_lo, h] at this; cases this
    have p3 : (pv (xs.map up) || pf (xs.map up)) = false := by
      cases e : (pv (xs.map up) || pf (xs.map up))
      · rfl
      · have := word_of_parse _ e; rw [map_lo_up, h] at this; cases this
    have q1 := (Bool.or_eq_false_iff.1 p1).1
    have q2 := (Bool.or_eq_false_iff.1 p2).1
    have q3 := (Bool.or_eq_false_iff.1 p3).1
    unfold foldB truthy
    rw [p1, p2, p3, q1, q2, q3, h]
    rfl
  · exact words_all foldB (by decide) (by decide) (by decide) xs h
end Go.Proofs.Qxb6630438a
