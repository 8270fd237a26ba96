/-
  Plain, no Go: the graph that the law builds.
-/
import Derived.Test.YbulkbmsFmtGraph
import Derived.Test.YbulkbmsFmtReach
namespace Go.Proofs.YbulkbmsFmt.Gr

/-- The earlier vertices to which vertex i is joined: p i, and by the mark t i also p (p i). -/
def ear (p : Nat → Nat) (t : Nat → Bool) (n i j : Nat) : Bool := decide (i < n) && (decide (j < i) && (j == p i || (t i && (decide (0 < p i) && j == p (p i)))))
def adjB (p : Nat → Nat) (t : Nat → Bool) (n a b : Nat) : Bool := ear p t n a b || ear p t n b a
theorem adjB_sym (p : Nat → Nat) (t : Nat → Bool) (n a b : Nat) : adjB p t n a b = adjB p t n b a := Bool.or_comm _ _
theorem ear_lt {p : Nat → Nat} {t : Nat → Bool} {n i j : Nat} (h : ear p t n i j = true) : j < i ∧ i < n := by
  simp [ear] at h; exact ⟨h.2.1, h.1⟩
theorem adjB_lt {p : Nat → Nat} {t : Nat → Bool} {n a b : Nat} (h : adjB p t n a b = true) : a < n ∧ b < n := by
  rcases Bool.or_eq_true _ _ ▸ h with e | e
  · have := ear_lt e; omega
  · have := ear_lt e; omega
theorem ear_of_adj {p : Nat → Nat} {t : Nat → Bool} {n i a : Nat} (ha : a < i) (h : adjB p t n i a = true) : ear p t n i a = true := by
  rcases Bool.or_eq_true _ _ ▸ h with e | e
  · exact e
  · have := ear_lt e; omega
theorem ear_cases {p : Nat → Nat} {t : Nat → Bool} {n i j : Nat} (h : ear p t n i j = true) : j = p i ∨ (t i = true ∧ 0 < p i ∧ j = p (p i)) := by
  simp [ear] at h; exact h.2.2
theorem ear_p {p : Nat → Nat} {t : Nat → Bool} {n i : Nat} (hi : i < n) (hp : p i < i) : ear p t n i (p i) = true := by
  simp [ear, hi, hp]
theorem built_elim (p : Nat → Nat) (t : Nat → Bool) (n : Nat) (hp : ∀ i, 0 < i → p i < i) : Elim (adjB p t n) := by
  refine ⟨adjB_sym p t n, fun a => ?_, fun i a b ha hb hia hib hab => ?_⟩
  · cases e : adjB p t n a a
    · rfl
    · rcases Bool.or_eq_true _ _ ▸ e with e1 | e1 <;> (have := ear_lt e1; omega)
  · have ea := ear_of_adj ha hia
    have eb := ear_of_adj hb hib
    have hin := (ear_lt ea).2
    have key : ∀ x, 0 < p i → x = p (p i) → adjB p t n (p i) x = true := fun x h0 hx => by
      subst hx
      unfold adjB
      rw [ear_p (by have := hp i (by omega); omega) (hp (p i) h0)]
      rfl
    rcases ear_cases ea with e1 | ⟨_, e2, e3⟩ <;> rcases ear_cases eb with f1 | ⟨_, f2, f3⟩
    · exact absurd (e1.trans f1.symm) hab
    · rw [e1]; exact key b f2 f3
    · rw [f1, adjB_sym]; exact key a e2 e3
    · exact absurd (e3.trans f3.symm) hab
theorem built_conn (p : Nat → Nat) (t : Nat → Bool) (n : Nat) (hp : ∀ i, 0 < i → p i < i) : ∀ v, v < n → Reach (adjB p t n) (fun _ => false) 0 v := by
  intro v
  induction v using Nat.strongRecOn with
  | _ v ih =>
    intro hv
    by_cases e : v = 0
    · subst e; exact Reach.self _ _ _
    · have h1 := hp v (by omega)
      refine (ih (p v) h1 (by omega)).step ?_ rfl
      rw [adjB_sym]
      unfold adjB
      rw [ear_p hv h1]
      rfl
end Go.Proofs.YbulkbmsFmt.Gr
