/-
  Plain, no Go: the edges that the law builds.
-/
import Derived.Test.YbulkbmsFmtBuilt
namespace Go.Proofs.YbulkbmsFmt.Gr

/-- The edges of the vertices 1 .. k. -/
def eds (p : Nat → Nat) (t : Nat → Bool) : Nat → List (Nat × Nat)
  | 0 => []
  | k + 1 => (eds p t k ++ [(k + 1, p (k + 1))]) ++ (if (t (k + 1) && decide (0 < p (k + 1))) = true then [(k + 1, p (p (k + 1)))] else [])
theorem mem_eds (p : Nat → Nat) (t : Nat → Bool) : ∀ (k a b : Nat), (a, b) ∈ eds p t k ↔ (1 ≤ a ∧ a ≤ k ∧ (b = p a ∨ (t a = true ∧ 0 < p a ∧ b = p (p a))))
  | 0, a, b => by simp [eds]; omega
  | k + 1, a, b => by
    unfold eds
    rw [List.mem_append, List.mem_append, mem_eds p t k a b]
    by_cases hc : (t (k + 1) && decide (0 < p (k + 1))) = true
    · rw [if_pos hc]
      simp at hc
      constructor
      · rintro ((h | h) | h)
        · exact ⟨h.1, by omega, h.2.2⟩
        · simp at h; obtain ⟨rfl, rfl⟩ := h; exact ⟨by omega, by omega, Or.inl rfl⟩
        · simp at h; obtain ⟨rfl, rfl⟩ := h; exact ⟨by omega, by omega, Or.inr ⟨hc.1, hc.2, rfl⟩⟩
      · rintro ⟨h1, h2, h3⟩
        by_cases e : a = k + 1
        · subst e
          rcases h3 with h | ⟨_, _, h⟩
          · left; right; simp [h]
          · right; simp [h]
        · left; left; exact ⟨h1, by omega, h3⟩
    · rw [if_neg hc]
      constructor
      · rintro ((h | h) | h)
        · exact ⟨h.1, by omega, h.2.2⟩
        · simp at h; obtain ⟨rfl, rfl⟩ := h; exact ⟨by omega, by omega, Or.inl rfl⟩
        · simp at h
      · rintro ⟨h1, h2, h3⟩
        by_cases e : a = k + 1
        · subst e
          rcases h3 with h | ⟨h4, h5, _⟩
          · left; right; simp [h]
          · exact absurd (by simp [h4, h5]) hc
        · left; left; exact ⟨h1, by omega, h3⟩
theorem eds_lt {p : Nat → Nat} {t : Nat → Bool} (hp : ∀ i, 0 < i → p i < i) {k : Nat} {e : Nat × Nat} (h : e ∈ eds p t k) : e.2 < e.1 ∧ e.1 < k + 1 := by
  obtain ⟨a, b⟩ := e
  obtain ⟨h1, h2, h3⟩ := (mem_eds p t k a b).1 h
  have := hp a (by omega)
  rcases h3 with h | ⟨_, h5, h⟩
  · subst h; exact ⟨this, by show a < _; omega⟩
  · have := hp (p a) h5
    subst h
    exact ⟨by show p (p a) < a; omega, by show a < _; omega⟩
theorem eds_nodup {p : Nat → Nat} {t : Nat → Bool} (hp : ∀ i, 0 < i → p i < i) : ∀ k, (eds p t k).Nodup
  | 0 => by simp [eds]
  | k + 1 => by
    have ih := eds_nodup (t := t) hp k
    have hno : ∀ b, (k + 1, b) ∉ eds p t k := fun b h => by have := ((mem_eds p t k (k + 1) b).1 h).2.1; omega
    have h1 : (eds p t k ++ [(k + 1, p (k + 1))]).Nodup := by
      rw [List.nodup_append]
      refine ⟨ih, by simp, fun a ha b hb e => ?_⟩
      simp at hb
      subst hb
      subst e
      exact hno _ ha
    unfold eds
    by_cases hc : (t (k + 1) && decide (0 < p (k + 1))) = true
    · rw [if_pos hc]
      simp at hc
      rw [List.nodup_append]
      refine ⟨h1, by simp, fun a ha b hb e => ?_⟩
      simp at hb
      subst hb
      subst e
      rcases List.mem_append.1 ha with h | h
      · exact hno _ h
      · simp at h
        have := hp (p (k + 1)) hc.2
        omega
    · rw [if_neg hc, List.append_nil]
      exact h1
theorem eds_length (p : Nat → Nat) (t : Nat → Bool) : ∀ k, (eds p t k).length ≤ 2 * k
  | 0 => by simp [eds]
  | k + 1 => by
    have ih := eds_length p t k
    unfold eds
    split <;> simp <;> omega
theorem eds_adj {p : Nat → Nat} {t : Nat → Bool} (hp : ∀ i, 0 < i → p i < i) (k a b : Nat) : adjB p t (k + 1) a b = true ↔ ((a, b) ∈ eds p t k ∨ (b, a) ∈ eds p t k) := by
  have key : ∀ a b, ear p t (k + 1) a b = true ↔ (a, b) ∈ eds p t k := fun a b => by
    rw [mem_eds]
    unfold ear
    simp only [Bool.and_eq_true, Bool.or_eq_true, decide_eq_true_eq, beq_iff_eq]
    constructor
    · rintro ⟨h1, h2, h3⟩
      refine ⟨by omega, by omega, ?_⟩
      rcases h3 with h | ⟨h4, h5, h6⟩
      · exact Or.inl h
      · exact Or.inr ⟨h4, h5, h6⟩
    · rintro ⟨h1, h2, h3⟩
      have h7 := hp a (by omega)
      rcases h3 with h | ⟨h4, h5, h6⟩
      · exact ⟨by omega, by omega, Or.inl h⟩
      · have := hp (p a) h5
        exact ⟨by omega, by omega, Or.inr ⟨h4, h5, h6⟩⟩
  unfold adjB
  rw [Bool.or_eq_true, key, key]
end Go.Proofs.YbulkbmsFmt.Gr
