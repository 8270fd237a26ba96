/-
  THE PLAIN PART of 'LawS0127BSupersede': keys ks 0 .. ks (n-1), their values v 0 .. v (n-1). No program in sight.
-/
namespace Go.Proofs.Ybulkbpk.PB
section
variable {α : Type} [DecidableEq α]

/-- The value that the map built from the first n keys holds for s. -/
def last (ks : Nat → α) (v : Nat → Int) : Nat → α → Option Int
  | 0, _ => none
  | n + 1, s => if ks n = s then some (v n) else last ks v n s
/-- How many keys it has. -/
def dist (ks : Nat → α) (v : Nat → Int) : Nat → Nat
  | 0 => 0
  | n + 1 => if (last ks v n (ks n)).isSome then dist ks v n else dist ks v n + 1
/-- How many of the first n keys are first of their kind and not s. -/
def cnt (ks : Nat → α) (v : Nat → Int) (s : α) : Nat → Nat
  | 0 => 0
  | n + 1 => if (last ks v n (ks n)).isSome = false ∧ ks n ≠ s then cnt ks v s n + 1 else cnt ks v s n

theorem last_at (ks : Nat → α) (v : Nat → Int) (n : Nat) : last ks v (n + 1) (ks n) = some (v n) := by simp [last]
theorem last_other (ks : Nat → α) (v : Nat → Int) (n : Nat) (s : α) (h : s ≠ ks n) : last ks v (n + 1) s = last ks v n s := by
  simp only [last]; rw [if_neg (fun e => h e.symm)]
theorem last_miss (ks : Nat → α) (v : Nat → Int) (s : α) (k : Nat) : ∀ n, k ≤ n → (∀ j, k ≤ j → j < n → ks j ≠ s) → last ks v n s = last ks v k s
  | 0, h, _ => by rw [Nat.le_zero.1 h]
  | n + 1, h, hm => by
    by_cases e : k = n + 1
    · rw [e]
    · simp only [last]
      rw [if_neg (hm n (by omega) (by omega))]
      exact last_miss ks v s k n (by omega) (fun j h1 h2 => hm j h1 (by omega))
theorem last_none (ks : Nat → α) (v : Nat → Int) (s : α) (n : Nat) (hm : ∀ j, j < n → ks j ≠ s) : last ks v n s = none :=
  (last_miss ks v s 0 n (Nat.zero_le _) (fun j _ h => hm j h)).trans rfl
theorem last_some (ks : Nat → α) (v : Nat → Int) (s : α) : ∀ n j, j < n → ks j = s → (last ks v n s).isSome = true
  | n + 1, j, hj, e => by
    simp only [last]
    by_cases e' : ks n = s
    · rw [if_pos e']; rfl
    · rw [if_neg e']
      have : j ≠ n := fun h => e' (h ▸ e)
      exact last_some ks v s n j (by omega) e
theorem cnt_dist (ks : Nat → α) (v : Nat → Int) (s : α) : ∀ n, cnt ks v s n + (if (last ks v n s).isSome then 1 else 0) = dist ks v n
  | 0 => rfl
  | n + 1 => by
    have ih := cnt_dist ks v s n
    have hd : dist ks v (n + 1) = if (last ks v n (ks n)).isSome then dist ks v n else dist ks v n + 1 := rfl
    have hc : cnt ks v s (n + 1) = if (last ks v n (ks n)).isSome = false ∧ ks n ≠ s then cnt ks v s n + 1 else cnt ks v s n := rfl
    rw [hd, hc]
    by_cases e : ks n = s
    · have hl : last ks v (n + 1) s = some (v n) := by rw [← e]; exact last_at ks v n
      rw [hl, e]
      cases h : (last ks v n s).isSome <;> simp [h] at ih ⊢ <;> omega
    · rw [last_other ks v n s (fun h => e h.symm)]
      cases h : (last ks v n (ks n)).isSome <;> simp [e] <;> omega
theorem dist_le (ks : Nat → α) (v : Nat → Int) : ∀ n, dist ks v n ≤ n
  | 0 => Nat.le_refl _
  | n + 1 => by have := dist_le ks v n; simp only [dist]; split <;> omega
theorem cnt_le (ks : Nat → α) (v : Nat → Int) (s : α) : ∀ n, cnt ks v s n ≤ n
  | 0 => Nat.le_refl _
  | n + 1 => by have := cnt_le ks v s n; simp only [cnt]; split <;> omega

/-- What 'supersede' leaves. -/
def sup (f : α → Option Int) (key : α) (size : Int) (s : α) : Option Int := if s = key then (if 0 < size then some size else none) else f s
/-- How many keys it has then. -/
def supN (f : α → Option Int) (n : Nat) (key : α) (size : Int) : Nat := if 0 < size then (if (f key).isSome then n else n + 1) else n - (if (f key).isSome then 1 else 0)
/-- The law's last word: the map's length is the count. -/
theorem count_right (ks : Nat → α) (v : Nat → Int) (n : Nat) (key : α) (size : Int) :
    supN (last ks v n) (dist ks v n) key size = cnt ks v key n + (if 0 < size then 1 else 0) := by
  have h := cnt_dist ks v key n
  unfold supN
  by_cases hs : 0 < size
  · rw [if_pos hs, if_pos hs]
    cases e : (last ks v n key).isSome <;> simp [e] at h ⊢ <;> omega
  · rw [if_neg hs, if_neg hs]; omega
end
end Go.Proofs.Ybulkbpk.PB
