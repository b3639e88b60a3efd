namespace Go.Proofs.Qxb6003438a
set_option linter.unusedVariables false
set_option linter.unusedSimpArgs false

-- Of the first k chunks: how many lie in partition j; how many in a partition below j.
def cE (p : Nat → Nat) : Nat → Nat → Nat
  | 0, _ => 0
  | k + 1, j => cE p k j + if p k = j then 1 else 0
def cL (p : Nat → Nat) : Nat → Nat → Nat
  | 0, _ => 0
  | k + 1, j => cL p k j + if p k < j then 1 else 0
-- The place of chunk i in the order.
def pos (p : Nat → Nat) (n i : Nat) : Nat := cL p n (p i) + cE p i (p i)

theorem cE_succ (p : Nat → Nat) (k j : Nat) : cE p (k + 1) j = cE p k j + if p k = j then 1 else 0 := rfl

theorem cL_succ (p : Nat → Nat) (k j : Nat) : cL p k (j + 1) = cL p k j + cE p k j := by
  induction k with
  | zero => rfl
  | succ k ih =>
    simp only [cL, cE, ih]
    by_cases h1 : p k < j + 1
    · by_cases h2 : p k < j
      · rw [if_pos h1, if_pos h2, if_neg (by omega)]; omega
      · rw [if_pos h1, if_neg h2, if_pos (by omega)]; omega
    · rw [if_neg h1, if_neg (by omega), if_neg (by omega)]; omega

theorem cL_zero (p : Nat → Nat) (k : Nat) : cL p k 0 = 0 := by
  induction k with
  | zero => rfl
  | succ k ih => simp [cL, ih]

theorem cL_le (p : Nat → Nat) (k j : Nat) : cL p k j ≤ k := by
  induction k with
  | zero => simp [cL]
  | succ k ih => simp only [cL]; split <;> omega

theorem cE_le (p : Nat → Nat) (k j : Nat) : cE p k j ≤ k := by
  induction k with
  | zero => simp [cE]
  | succ k ih => simp only [cE]; split <;> omega

theorem cL_full (p : Nat → Nat) (k m : Nat) (h : ∀ i, i < k → p i < m) : cL p k m = k := by
  induction k with
  | zero => rfl
  | succ k ih => simp only [cL]; rw [ih (fun i hi => h i (by omega)), if_pos (h k (by omega))]

theorem cL_mono (p : Nat → Nat) (k : Nat) {j j' : Nat} (h : j ≤ j') : cL p k j ≤ cL p k j' := by
  induction k with
  | zero => simp [cL]
  | succ k ih =>
    simp only [cL]
    by_cases h1 : p k < j
    · rw [if_pos h1, if_pos (by omega)]; omega
    · rw [if_neg h1]; omega

theorem cE_mono (p : Nat → Nat) (j : Nat) {k k' : Nat} (h : k ≤ k') : cE p k j ≤ cE p k' j := by
  induction k' with
  | zero => have : k = 0 := by omega
            subst this; exact Nat.le_refl _
  | succ k' ih =>
    by_cases e : k = k' + 1
    · subst e; exact Nat.le_refl _
    · have := ih (by omega); simp only [cE]; omega

theorem cE_lt (p : Nat → Nat) {i k : Nat} (h : i < k) : cE p i (p i) < cE p k (p i) := by
  have := cE_mono p (p i) (show i + 1 ≤ k from h)
  simp only [cE, if_true] at this
  omega

theorem pos_lt (p : Nat → Nat) {n i : Nat} (h : i < n) : pos p n i < cL p n (p i + 1) := by
  rw [cL_succ]
  have := cE_lt p h
  unfold pos
  omega

theorem pos_ge (p : Nat → Nat) (n i : Nat) : cL p n (p i) ≤ pos p n i := by unfold pos; omega

theorem pos_lt_n (p : Nat → Nat) {n i : Nat} (h : i < n) : pos p n i < n := by
  have := pos_lt p h
  have := cL_le p n (p i + 1)
  omega

theorem pos_less (p : Nat → Nat) {n i i' : Nat} (h : i < n) (h' : i' < n) (hl : p i < p i' ∨ (p i = p i' ∧ i < i')) : pos p n i < pos p n i' := by
  rcases hl with hl | ⟨he, hl⟩
  · have h1 := pos_lt p h
    have h2 := cL_mono p n (show p i + 1 ≤ p i' from hl)
    have h3 := pos_ge p n i'
    omega
  · have h1 := cE_lt p hl
    unfold pos
    rw [he] at h1 ⊢
    omega

theorem pos_less_iff (p : Nat → Nat) {n i i' : Nat} (h : i < n) (h' : i' < n) (hp : pos p n i < pos p n i') : p i < p i' ∨ (p i = p i' ∧ i < i') := by
  rcases Nat.lt_trichotomy (p i) (p i') with h1 | h1 | h1
  · exact .inl h1
  · rcases Nat.lt_trichotomy i i' with h2 | h2 | h2
    · exact .inr ⟨h1, h2⟩
    · subst h2; omega
    · have := pos_less p h' h (.inr ⟨h1.symm, h2⟩); omega
  · have := pos_less p h' h (.inl h1); omega

theorem pos_inj (p : Nat → Nat) {n i i' : Nat} (h : i < n) (h' : i' < n) (hp : pos p n i = pos p n i') : i = i' := by
  rcases Nat.lt_trichotomy (p i) (p i') with h1 | h1 | h1
  · have := pos_less p h h' (.inl h1); omega
  · rcases Nat.lt_trichotomy i i' with h2 | h2 | h2
    · have := pos_less p h h' (.inr ⟨h1, h2⟩); omega
    · exact h2
    · have := pos_less p h' h (.inr ⟨h1.symm, h2⟩); omega
  · have := pos_less p h' h (.inl h1); omega

theorem cE_find (p : Nat → Nat) (j t k : Nat) (h : t < cE p k j) : ∃ i, i < k ∧ p i = j ∧ cE p i j = t := by
  induction k with
  | zero => simp [cE] at h
  | succ k ih =>
    simp only [cE] at h
    by_cases h1 : t < cE p k j
    · obtain ⟨i, hi, r⟩ := ih h1; exact ⟨i, by omega, r⟩
    · by_cases e : p k = j
      · rw [if_pos e] at h; exact ⟨k, by omega, e, by omega⟩
      · rw [if_neg e] at h; omega

theorem cL_band (p : Nat → Nat) (n k m : Nat) (h : k < cL p n m) : ∃ j, j < m ∧ cL p n j ≤ k ∧ k < cL p n (j + 1) := by
  induction m with
  | zero => rw [cL_zero] at h; omega
  | succ m ih =>
    by_cases h1 : k < cL p n m
    · obtain ⟨j, hj, r⟩ := ih h1; exact ⟨j, by omega, r⟩
    · exact ⟨m, by omega, by omega, h⟩

-- Every place of partition j's stretch is some chunk's of that partition.
theorem pos_hit (p : Nat → Nat) {n k j : Nat} (h1 : cL p n j ≤ k) (h2 : k < cL p n (j + 1)) : ∃ i, i < n ∧ p i = j ∧ pos p n i = k := by
  rw [cL_succ] at h2
  obtain ⟨i, hi, he, hc⟩ := cE_find p j (k - cL p n j) n (by omega)
  refine ⟨i, hi, he, ?_⟩
  unfold pos
  rw [he, hc]
  omega

theorem pos_onto (p : Nat → Nat) {n k m : Nat} (hp : ∀ i, i < n → p i < m) (hk : k < n) : ∃ i, i < n ∧ pos p n i = k := by
  obtain ⟨j, _, h1, h2⟩ := cL_band p n k m (by rw [cL_full p n m hp]; exact hk)
  obtain ⟨i, hi, _, h⟩ := pos_hit p h1 h2
  exact ⟨i, hi, h⟩

end Go.Proofs.Qxb6003438a
