import Derived.Test.Qxb6630438aLaw
namespace Go.Proofs.Qxb6630438a

/-- every byte lies between l and h -/
def allIn (xs : List UInt8) (l h : Nat) : Bool := xs.all fun c => decide (l ≤ c.toNat) && decide (c.toNat ≤ h)

/-- zzSpelledModel, plain: the tail's test, the value, whether accepted -/
def tailOk (xs : List UInt8) : Bool := allIn xs.tail 97 122 || (allIn xs.tail 65 90 && allIn (xs.take 1) 65 90)
def isTrue (xs : List UInt8) : Bool := xs.map lo == [116, 114, 117, 101]
def isFalse (xs : List UInt8) : Bool := xs.map lo == [102, 97, 108, 115, 101]
def smk (xs : List UInt8) : Bool :=
  if xs.length = 0 then false else if xs.length = 1 then (xs.map lo == [116] || xs.map lo == [102]) else ((isTrue xs || isFalse xs) && tailOk xs)
def smv (xs : List UInt8) : Bool :=
  if xs.length = 0 then false else if xs.length = 1 then xs.map lo == [116] else ((isTrue xs || isFalse xs) && tailOk xs && isTrue xs)

theorem model_law (xs : List UInt8) : pv xs = smv xs ∧ (pv xs || pf xs) = smk xs := by
  cases h : word (xs.map lo)
  · have p1 : (pv xs || pf xs) = false := by
      cases e : (pv xs || pf xs)
      · rfl
      · rw [word_of_parse xs e] at h; cases h
    have q1 := (Bool.or_eq_false_iff.1 p1).1
    unfold word at h
    simp only [Bool.or_eq_false_iff] at h
    obtain ⟨⟨⟨h1, h2⟩, h3⟩, h4⟩ := h
    rw [p1, q1]
    unfold smv smk isTrue isFalse
    rw [h1, h2, h3, h4]
    constructor
    · split
      · rfl
      · split <;> rfl
    · split
      · rfl
      · split <;> rfl
  · have P := words_all (fun xs => pv xs == smv xs && (pv xs || pf xs) == smk xs) (by decide) (by decide) (by decide) xs h
    simpa using P

/-- b with c put in at i -/
def ins (xs : List UInt8) (i : Nat) (c : UInt8) : List UInt8 := xs.take i ++ c :: xs.drop i

theorem ins_length (xs : List UInt8) (i : Nat) (c : UInt8) (h : i ≤ xs.length) : (ins xs i c).length = xs.length + 1 := by
  unfold ins
  simp
  omega
theorem ins_lt (xs : List UInt8) (i : Nat) (c : UInt8) (h : i ≤ xs.length) (k : Nat) (hk : k < i) : (ins xs i c)[k]'(by rw [ins_length _ _ _ h]; omega) = xs[k] := by
  unfold ins
  rw [List.getElem_append_left (by simp; omega), List.getElem_take]
theorem ins_at (xs : List UInt8) (i : Nat) (c : UInt8) (h : i ≤ xs.length) : (ins xs i c)[i]'(by rw [ins_length _ _ _ h]; omega) = c := by
  unfold ins
  rw [List.getElem_append_right (by simp; omega)]
  have e : (List.take i xs).length = i := by simp; omega
  simp [e]
theorem ins_gt (xs : List UInt8) (i : Nat) (c : UInt8) (h : i ≤ xs.length) (k : Nat) (hk : i ≤ k) (hk2 : k < xs.length) : (ins xs i c)[k + 1]'(by rw [ins_length _ _ _ h]; omega) = xs[k] := by
  unfold ins
  have e : (List.take i xs).length = i := by simp; omega
  rw [List.getElem_append_right (by rw [e]; omega)]
  have e2 : k + 1 - (List.take i xs).length = (k - i) + 1 := by rw [e]; omega
  simp only [e2, List.getElem_cons_succ, List.getElem_drop]
  congr 1
  omega

theorem word_cases {xs : List UInt8} (h : word (xs.map lo) = true) : xs.length = 1 ∨ (xs.length = 4 ∧ (116 : UInt8) ∈ xs.map lo) ∨ (xs.length = 5 ∧ xs.map lo = [102, 97, 108, 115, 101]) := by
  unfold word at h
  simp only [Bool.or_eq_true, beq_iff_eq] at h
  rcases h with ((h | h) | h) | h
  · have := congrArg List.length h; simp at this; exact Or.inl this
  · have := congrArg List.length h; simp at this; exact Or.inr (Or.inl ⟨this, by rw [h]; decide⟩)
  · have := congrArg List.length h; simp at this; exact Or.inl this
  · have := congrArg List.length h; simp at this; exact Or.inr (Or.inr ⟨this, h⟩)

theorem never_both (xs : List UInt8) (i : Nat) (c : UInt8) (h : i ≤ xs.length) : ((pv xs || pf xs) && (pv (ins xs i c) || pf (ins xs i c))) = false := by
  cases e1 : (pv xs || pf xs)
  · rfl
  cases e2 : (pv (ins xs i c) || pf (ins xs i c))
  · rfl
  exfalso
  have a1 := word_cases (word_of_parse _ e1)
  have a2 := word_cases (word_of_parse _ e2)
  rw [ins_length _ _ _ h] at a2
  rcases a1 with a1 | ⟨a1, m1⟩ | ⟨a1, _⟩
  · omega
  · rcases a2 with a2 | ⟨a2, _⟩ | ⟨_, m2⟩
    · omega
    · omega
    · have : (116 : UInt8) ∈ (ins xs i c).map lo := by
        rw [List.mem_map] at m1 ⊢
        obtain ⟨y, hy, e⟩ := m1
        refine ⟨y, ?_, e⟩
        unfold ins
        rw [← List.take_append_drop i xs, List.mem_append] at hy
        rw [List.mem_append, List.mem_cons]
        rcases hy with hy | hy
        · exact Or.inl hy
        · exact Or.inr (Or.inr hy)
      rw [m2] at this
      revert this
      decide
  · omega
end Go.Proofs.Qxb6630438a
