/-
  Plain, no Go: in a graph with an elimination order the order of a maximum cardinality search, reversed, is one too.
-/
namespace Go.Proofs.YbulkbmsFmt.Gr

/-- A path v 0 .. v k with no chord and no vertex twice. -/
structure Ind (adj : Nat → Nat → Bool) (v : Nat → Nat) (k : Nat) : Prop where
  step : ∀ i, i < k → adj (v i) (v (i + 1)) = true
  chord : ∀ i j, i + 1 < j → j ≤ k → adj (v i) (v j) = false
  ne : ∀ i j, i < j → j ≤ k → v i ≠ v j

theorem Ind.rev {adj : Nat → Nat → Bool} {v : Nat → Nat} {k : Nat} (hs : ∀ a b, adj a b = adj b a) (h : Ind adj v k) : Ind adj (fun i => v (k - i)) k := by
  refine ⟨fun i hi => ?_, fun i j h1 h2 => ?_, fun i j h1 h2 => ?_⟩
  · have := h.step (k - (i + 1)) (by omega)
    rw [hs]
    rw [show k - (i + 1) + 1 = k - i by omega] at this
    exact this
  · rw [hs]
    exact h.chord (k - j) (k - i) (by omega) (by omega)
  · exact (h.ne (k - j) (k - i) (by omega) (by omega)).symm

/-- The least index at least 1 of which p holds. -/
theorem least_from (p : Nat → Bool) : ∀ k, 1 ≤ k → p k = true → ∃ i, 1 ≤ i ∧ i ≤ k ∧ p i = true ∧ ∀ t, 1 ≤ t → t < i → p t = false := by
  intro k
  induction k using Nat.strongRecOn with
  | _ k ih =>
    intro h1 hk
    by_cases hx : ∃ t, 1 ≤ t ∧ t < k ∧ p t = true
    · obtain ⟨t, a, b, c⟩ := hx
      obtain ⟨i, i1, i2, i3, i4⟩ := ih t b a c
      exact ⟨i, i1, by omega, i3, i4⟩
    · refine ⟨k, h1, Nat.le_refl _, hk, fun t a b => ?_⟩
      cases hp : p t
      · rfl
      · exact absurd ⟨t, a, b, hp⟩ hx

/-- A greatest value of v on 0 .. k. -/
theorem argmax (v : Nat → Nat) : ∀ k, ∃ t, t ≤ k ∧ ∀ i, i ≤ k → v i ≤ v t
  | 0 => ⟨0, Nat.le_refl _, fun i hi => by rw [Nat.le_zero.1 hi]; exact Nat.le_refl _⟩
  | k + 1 => by
    obtain ⟨t, h1, h2⟩ := argmax v k
    by_cases c : v (k + 1) ≤ v t
    · refine ⟨t, by omega, fun i hi => ?_⟩
      by_cases e : i = k + 1
      · subst e; exact c
      · exact h2 i (by omega)
    · refine ⟨k + 1, Nat.le_refl _, fun i hi => ?_⟩
      by_cases e : i = k + 1
      · subst e; exact Nat.le_refl _
      · have := h2 i (by omega); omega

/-- What is known of the graph: the neighbours of a vertex that have smaller numbers are joined to one another. -/
structure Elim (adj : Nat → Nat → Bool) : Prop where
  sym : ∀ a b, adj a b = adj b a
  irr : ∀ a, adj a a = false
  simp : ∀ i a b, a < i → b < i → adj i a = true → adj i b = true → a ≠ b → adj a b = true

/-- No cycle of four or more vertices without a chord: v 0 .. v i, and d joined to both ends and to nothing between. -/
theorem Elim.no_cycle {adj : Nat → Nat → Bool} (E : Elim adj) {v : Nat → Nat} {i d : Nat} (hi : 2 ≤ i) (h : Ind adj v i) (h0 : adj d (v 0) = true) (hl : adj d (v i) = true)
    (hm : ∀ t, 1 ≤ t → t < i → adj d (v t) = false) (hne : ∀ t, t ≤ i → d ≠ v t) : False := by
  obtain ⟨t, ht, hmax⟩ := argmax v i
  by_cases hd : v t < d
  · have a0 := hmax 0 (by omega)
    have ai := hmax i (Nat.le_refl _)
    have := E.simp d (v 0) (v i) (by omega) (by omega) h0 hl (h.ne 0 i (by omega) (Nat.le_refl _))
    rw [h.chord 0 i (by omega) (Nat.le_refl _)] at this
    cases this
  · have hdt : d < v t := by have := hne t ht; omega
    have lt : ∀ s, s ≤ i → s ≠ t → v s < v t := fun s hs hst => by
      have h1 := hmax s hs
      have h2 : v s ≠ v t := by
        rcases Nat.lt_or_gt_of_ne hst with h3 | h3
        · exact h.ne s t h3 ht
        · exact (h.ne t s h3 hs).symm
      omega
    by_cases e0 : t = 0
    · subst e0
      have h1 := h.step 0 (by omega)
      have := E.simp (v 0) d (v 1) hdt (lt 1 (by omega) (by omega)) (by rw [E.sym]; exact h0) h1 (hne 1 (by omega))
      rw [hm 1 (Nat.le_refl _) (by omega)] at this
      cases this
    · by_cases ei : t = i
      · subst ei
        have h1 := h.step (t - 1) (by omega)
        rw [show t - 1 + 1 = t by omega] at h1
        have := E.simp (v t) d (v (t - 1)) hdt (lt (t - 1) (by omega) (by omega)) (by rw [E.sym]; exact hl) (by rw [E.sym]; exact h1) (hne (t - 1) (by omega))
        rw [hm (t - 1) (by omega) (by omega)] at this
        cases this
      · have h1 := h.step (t - 1) (by omega)
        rw [show t - 1 + 1 = t by omega] at h1
        have h2 := h.step t (by omega)
        have := E.simp (v t) (v (t - 1)) (v (t + 1)) (lt (t - 1) (by omega) (by omega)) (lt (t + 1) (by omega) (by omega)) (by rw [E.sym]; exact h1) h2 (h.ne (t - 1) (t + 1) (by omega) (by omega))
        rw [h.chord (t - 1) (t + 1) (by omega) (by omega)] at this
        cases this

/-- What a maximum cardinality search leaves: where b is visited ahead of c, and a, visited ahead of b, is joined to c and not to b, there is a d, visited ahead of b, joined to b and not to c. -/
def PropP (adj : Nat → Nat → Bool) (n : Nat) (pos : Nat → Nat) : Prop :=
  ∀ a b c, a < n → b < n → c < n → pos a < pos b → pos b < pos c → adj a c = true → adj a b = false → ∃ d, d < n ∧ pos d < pos b ∧ adj d b = true ∧ adj d c = false

theorem no_path_aux {adj : Nat → Nat → Bool} (E : Elim adj) {n : Nat} {pos : Nat → Nat} (hP : PropP adj n pos) :
    ∀ m k (v : Nat → Nat), 2 ≤ k → Ind adj v k → (∀ i, i ≤ k → v i < n) → pos (v 0) < pos (v k) → pos (v k) = m → (∀ i, 1 ≤ i → i < k → pos (v k) < pos (v i)) →
      (∀ m', m' < m → ∀ k' (u : Nat → Nat), 2 ≤ k' → Ind adj u k' → (∀ i, i ≤ k' → u i < n) → (∀ i, 1 ≤ i → i < k' → pos (u 0) < pos (u i) ∧ pos (u k') < pos (u i)) → max (pos (u 0)) (pos (u k')) = m' → False) → False := by
  intro m k v hk h hn h0 hm hin ih
  obtain ⟨d, hdn, hd1, hd2, hd3⟩ := hP (v 0) (v k) (v 1) (hn 0 (by omega)) (hn k (Nat.le_refl _)) (hn 1 (by omega)) h0 (hin 1 (Nat.le_refl _) (by omega)) (h.step 0 (by omega)) (h.chord 0 k (by omega) (Nat.le_refl _))
  obtain ⟨i, i1, i2, i3, i4⟩ := least_from (fun t => adj d (v t)) k (by omega) hd2
  have i2' : 2 ≤ i := by
    by_cases e : i = 1
    · subst e; rw [hd3] at i3; cases i3
    · omega
  have hle : ∀ t, 1 ≤ t → t ≤ k → pos (v k) ≤ pos (v t) := fun t a b => by
    by_cases e : t = k
    · rw [e]; exact Nat.le_refl _
    · exact Nat.le_of_lt (hin t a (by omega))
  have hne : ∀ t, t ≤ i → d ≠ v t := fun t ht e => by
    by_cases e0 : t = 0
    · subst e0
      rw [e, h.chord 0 k (by omega) (Nat.le_refl _)] at hd2
      cases hd2
    · have := hle t (by omega) (by omega)
      rw [e] at hd1; omega
  have hI : Ind adj v i := ⟨fun s hs => h.step s (by omega), fun s t a b => h.chord s t a (by omega), fun s t a b => h.ne s t a (by omega)⟩
  cases hx : adj d (v 0)
  · -- a longer path with earlier ends
    let u : Nat → Nat := fun t => if t ≤ i then v t else d
    have ul : ∀ t, t ≤ i → u t = v t := fun t ht => if_pos ht
    have ud : u (i + 1) = d := if_neg (by omega)
    have hU : Ind adj u (i + 1) := by
      refine ⟨fun s hs => ?_, fun s t a b => ?_, fun s t a b => ?_⟩
      · by_cases e : s = i
        · subst e; rw [ul s (Nat.le_refl _), ud, E.sym]; exact i3
        · rw [ul s (by omega), ul (s + 1) (by omega)]; exact hI.step s (by omega)
      · by_cases e : t = i + 1
        · subst e
          rw [ul s (by omega), ud, E.sym]
          by_cases e0 : s = 0
          · subst e0; exact hx
          · exact i4 s (by omega) (by omega)
        · rw [ul s (by omega), ul t (by omega)]; exact hI.chord s t a (by omega)
      · by_cases e : t = i + 1
        · subst e; rw [ul s (by omega), ud]; exact (hne s (by omega)).symm
        · rw [ul s (by omega), ul t (by omega)]; exact hI.ne s t a (by omega)
    refine ih (max (pos (u 0)) (pos (u (i + 1)))) ?_ (i + 1) u (by omega) hU (fun t ht => ?_) (fun t a b => ?_) rfl
    · rw [ul 0 (by omega), ud]; omega
    · by_cases e : t = i + 1
      · subst e; rw [ud]; exact hdn
      · rw [ul t (by omega)]; exact hn t (by omega)
    · rw [ul 0 (by omega), ud, ul t (by omega)]
      have := hle t a (by omega)
      omega
  · exact E.no_cycle i2' hI hx i3 i4 hne

theorem no_path {adj : Nat → Nat → Bool} (E : Elim adj) {n : Nat} {pos : Nat → Nat} (inj : ∀ a b, a < n → b < n → pos a = pos b → a = b) (hP : PropP adj n pos) :
    ∀ m k (u : Nat → Nat), 2 ≤ k → Ind adj u k → (∀ i, i ≤ k → u i < n) → (∀ i, 1 ≤ i → i < k → pos (u 0) < pos (u i) ∧ pos (u k) < pos (u i)) → max (pos (u 0)) (pos (u k)) = m → False := by
  intro m
  induction m using Nat.strongRecOn with
  | _ m ih =>
    intro k u hk h hn hin hm
    rcases Nat.lt_trichotomy (pos (u 0)) (pos (u k)) with hlt | heq | hgt
    · exact no_path_aux E hP m k u hk h hn hlt (by omega) (fun i a b => (hin i a b).2) (fun m' hm' k' u' a b c d e => ih m' hm' k' u' a b c d e)
    · exact absurd (inj _ _ (hn 0 (by omega)) (hn k (Nat.le_refl _)) heq) (h.ne 0 k (by omega) (Nat.le_refl _))
    · refine no_path_aux E hP m k (fun i => u (k - i)) hk (h.rev E.sym) (fun i hi => hn (k - i) (by omega)) ?_ ?_ (fun i a b => ?_) (fun m' hm' k' u' a b c d e => ih m' hm' k' u' a b c d e)
      · simpa using hgt
      · show pos (u (k - k)) = m
        rw [Nat.sub_self]; omega
      · show pos (u (k - k)) < pos (u (k - i))
        rw [Nat.sub_self]
        exact (hin (k - i) (by omega) (by omega)).1

/-- The neighbours of c that are visited ahead of it are joined to one another. -/
theorem clique_before {adj : Nat → Nat → Bool} (E : Elim adj) {n : Nat} {pos : Nat → Nat} (inj : ∀ a b, a < n → b < n → pos a = pos b → a = b) (hP : PropP adj n pos)
    {a b c : Nat} (ha : a < n) (hb : b < n) (hc : c < n) (hac : adj a c = true) (hbc : adj b c = true) (h1 : pos a < pos c) (h2 : pos b < pos c) (hab : a ≠ b) : adj a b = true := by
  cases hx : adj a b
  · exfalso
    let v : Nat → Nat := fun t => if t = 0 then a else if t = 1 then c else b
    have hca : c ≠ a := fun e => by rw [e] at h1; omega
    have hcb : c ≠ b := fun e => by rw [e] at h2; omega
    refine no_path E inj hP _ 2 v (Nat.le_refl _) ⟨fun i hi => ?_, fun i j h3 h4 => ?_, fun i j h3 h4 => ?_⟩ (fun i hi => ?_) (fun i h3 h4 => ?_) rfl
    · by_cases e : i = 0
      · subst e; exact hac
      · obtain rfl : i = 1 := by omega
        show adj c b = true
        rw [E.sym]; exact hbc
    · obtain rfl : i = 0 := by omega
      obtain rfl : j = 2 := by omega
      exact hx
    · by_cases e : i = 0
      · subst e
        by_cases e2 : j = 1
        · subst e2; exact hca.symm
        · obtain rfl : j = 2 := by omega
          exact hab
      · obtain rfl : i = 1 := by omega
        obtain rfl : j = 2 := by omega
        exact hcb
    · by_cases e : i = 0
      · subst e; exact ha
      · by_cases e2 : i = 1
        · subst e2; exact hc
        · obtain rfl : i = 2 := by omega
          exact hb
    · obtain rfl : i = 1 := by omega
      exact ⟨h1, h2⟩
  · rfl
end Go.Proofs.YbulkbmsFmt.Gr
