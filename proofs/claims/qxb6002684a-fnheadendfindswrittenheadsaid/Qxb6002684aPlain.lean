namespace Go.Proofs.Qxb6002684a

/-- At p: two line feeds. -/
def E2 (xs : List Int) (n p : Nat) : Prop := p + 1 < n ∧ xs.getD p 0 = 10 ∧ xs.getD (p + 1) 0 = 10
/-- At p: a line feed and CR LF. -/
def E3 (xs : List Int) (n p : Nat) : Prop := p + 2 < n ∧ xs.getD p 0 = 10 ∧ xs.getD (p + 1) 0 = 13 ∧ xs.getD (p + 2) 0 = 10

/-- What 'headEnd' answers. -/
def IsHead (xs : List Int) (n r : Nat) : Prop :=
  (r = 0 ∧ ∀ p, ¬ E2 xs n p ∧ ¬ E3 xs n p) ∨
  ∃ p, ((r = p + 2 ∧ E2 xs n p) ∨ (r = p + 3 ∧ E3 xs n p ∧ ¬ E2 xs n p)) ∧ ∀ q, q < p → ¬ E2 xs n q ∧ ¬ E3 xs n q

/-- What 'endsEmptyLine' answers. -/
def Ends (xs : List Int) (m : Nat) : Prop :=
  (2 ≤ m ∧ xs.getD (m - 2) 0 = 10 ∧ xs.getD (m - 1) 0 = 10) ∨ (3 ≤ m ∧ xs.getD (m - 3) 0 = 10 ∧ xs.getD (m - 2) 0 = 13 ∧ xs.getD (m - 1) 0 = 10)

theorem ends_two {xs : List Int} {n p : Nat} (h : E2 xs n p) : Ends xs (p + 2) := .inl ⟨by omega, h.2.1, h.2.2⟩
theorem ends_three {xs : List Int} {n p : Nat} (h : E3 xs n p) : Ends xs (p + 3) := .inr ⟨by omega, h.2.1, h.2.2.1, h.2.2.2⟩
theorem ends_cases {xs : List Int} {n m : Nat} (hm : m ≤ n) (h : Ends xs m) : ∃ p, (m = p + 2 ∧ E2 xs n p) ∨ (m = p + 3 ∧ E3 xs n p) := by
  rcases h with ⟨h1, h2, h3⟩ | ⟨h1, h2, h3, h4⟩
  · obtain ⟨p, rfl⟩ : ∃ p, m = p + 2 := ⟨m - 2, by omega⟩
    exact ⟨p, .inl ⟨rfl, by omega, h2, h3⟩⟩
  · obtain ⟨p, rfl⟩ : ∃ p, m = p + 3 := ⟨m - 3, by omega⟩
    exact ⟨p, .inr ⟨rfl, by omega, h2, h3, h4⟩⟩

/-- No 'm' ends: the answer is 0. -/
theorem head_none {xs : List Int} {n r : Nat} (h : IsHead xs n r) (hn : ∀ m, 2 ≤ m → m ≤ n → ¬ Ends xs m) : r = 0 := by
  rcases h with ⟨h, _⟩ | ⟨p, ⟨rfl, h⟩ | ⟨rfl, h, _⟩, _⟩
  · exact h
  · exact absurd (ends_two h) (hn _ (by omega) (by have := h.1; omega))
  · exact absurd (ends_three h) (hn _ (by omega) (by have := h.1; omega))

/-- The least 'm' that ends is the answer. -/
theorem head_least {xs : List Int} {n r m : Nat} (h : IsHead xs n r) (hm : m ≤ n) (he : Ends xs m) (hl : ∀ k, 2 ≤ k → k < m → ¬ Ends xs k) : r = m := by
  obtain ⟨p, hp⟩ := ends_cases hm he
  rcases h with ⟨_, h⟩ | ⟨q, hq, hlq⟩
  · rcases hp with ⟨_, hp⟩ | ⟨_, hp⟩
    · exact absurd hp (h p).1
    · exact absurd hp (h p).2
  · rcases hq with ⟨rfl, hq⟩ | ⟨rfl, hq, hq2⟩
    · have h1 : ¬ q + 2 < m := fun h => hl _ (by omega) h (ends_two hq)
      rcases hp with ⟨rfl, hp⟩ | ⟨rfl, hp⟩
      · have : ¬ p < q := fun h => (hlq p h).1 hp
        omega
      · have : ¬ p < q := fun h => (hlq p h).2 hp
        omega
    · have h1 : ¬ q + 3 < m := fun h => hl _ (by omega) h (ends_three hq)
      rcases hp with ⟨rfl, hp⟩ | ⟨rfl, hp⟩
      · have h2 : ¬ p < q := fun h => (hlq p h).1 hp
        have h3 : p ≠ q := fun h => hq2 (h ▸ hp)
        omega
      · have : ¬ p < q := fun h => (hlq p h).2 hp
        omega

/-- The steps of 'headEnd': from i on the first line feed stands at i + j. -/
theorem head_go {xs : List Int} {n i j : Nat} (hi : ∀ p, p < i → ¬ E2 xs n p ∧ ¬ E3 xs n p) (hj : ∀ k, k < j → xs.getD (i + k) 0 ≠ 10) : ∀ p, p < i + j → ¬ E2 xs n p ∧ ¬ E3 xs n p := by
  intro p hp
  by_cases h : p < i
  · exact hi p h
  · have := hj (p - i) (by omega)
    rw [show i + (p - i) = p from by omega] at this
    exact ⟨fun h => this h.2.1, fun h => this h.2.1⟩

theorem head_zero {xs : List Int} {n i : Nat} (hi : ∀ p, p < i → ¬ E2 xs n p ∧ ¬ E3 xs n p) (hj : ∀ k, i + k < n → xs.getD (i + k) 0 ≠ 10) : IsHead xs n 0 := by
  refine .inl ⟨rfl, fun p => ?_⟩
  by_cases h : p < i
  · exact hi p h
  · refine ⟨fun h2 => ?_, fun h3 => ?_⟩
    · have h0 := h2.1; have := hj (p - i) (by omega); rw [show i + (p - i) = p from by omega] at this; exact this h2.2.1
    · have h0 := h3.1; have := hj (p - i) (by omega); rw [show i + (p - i) = p from by omega] at this; exact this h3.2.1

theorem head_step {xs : List Int} {n p : Nat} (hi : ∀ q, q < p → ¬ E2 xs n q ∧ ¬ E3 xs n q) (h2 : ¬ E2 xs n p) (h3 : ¬ E3 xs n p) : ∀ q, q < p + 1 → ¬ E2 xs n q ∧ ¬ E3 xs n q := by
  intro q hq
  by_cases h : q = p
  · subst h; exact ⟨h2, h3⟩
  · exact hi q (by omega)
end Go.Proofs.Qxb6002684a
