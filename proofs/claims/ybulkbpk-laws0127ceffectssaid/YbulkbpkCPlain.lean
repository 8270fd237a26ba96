import Derived.Test.YbulkbpkCBuild
import Derived.Test.YbulkbpkLocks
import Derived.DeepKeys4
namespace Go.Proofs.Ybulkbpk
open Go.RowKit Go.Maps

/-! ### a file's id, and the map's key -/
def Id : Type := { p : Int × Int // 0 ≤ p.1 ∧ p.1 < 2 ∧ 0 ≤ p.2 ∧ p.2 < 3 }
theorem Id.ext {a b : Id} (h1 : a.1.1 = b.1.1) (h2 : a.1.2 = b.1.2) : a = b := Subtype.ext (Prod.ext h1 h2)
theorem mk_ok (d i : Int) : 0 ≤ (d % 2, i % 3).1 ∧ (d % 2, i % 3).1 < 2 ∧ 0 ≤ (d % 2, i % 3).2 ∧ (d % 2, i % 3).2 < 3 := by simp only; omega
def idOf (e : Ent) : Id := ⟨(e.dv % 2, e.io % 3), mk_ok e.dv e.io⟩
def idV (a : Id) : Value := .agg #[.int .u64 a.1.1, .int .u64 a.1.2]
theorem idV_inj (a b : Id) (h : idV a = idV b) : a = b := by
  unfold idV at h
  injection h with h
  simp at h
  exact Id.ext h.1 h.2
theorem laidOutC : laidOutB Yba.prog = true := by kernel_rfl
theorem law72 : Keyed Yba.prog 72 := Keyed.of_law (deep_law_laid laidOutC (m := 2) (by omega) (of_decide_eq_true (by kernel_rfl)) (by kernel_rfl) (by kernel_rfl))
/-- 'lit' says what each id reads as. -/
def LitOk (lit : Id → Lit) : Prop := ∀ a, keyOf Yba.prog 72 (idV a) = some (lit a)
theorem LitOk.inj {lit : Id → Lit} (h : LitOk lit) (a b : Id) (e : lit a = lit b) : a = b :=
  idV_inj a b (law72.inj (h a) (by rw [e]; exact h b))
theorem key00 : (keyOf Yba.prog 72 (.agg #[.int .u64 0, .int .u64 0])).isSome = true := by kernel_rfl
theorem key01 : (keyOf Yba.prog 72 (.agg #[.int .u64 0, .int .u64 1])).isSome = true := by kernel_rfl
theorem key02 : (keyOf Yba.prog 72 (.agg #[.int .u64 0, .int .u64 2])).isSome = true := by kernel_rfl
theorem key10 : (keyOf Yba.prog 72 (.agg #[.int .u64 1, .int .u64 0])).isSome = true := by kernel_rfl
theorem key11 : (keyOf Yba.prog 72 (.agg #[.int .u64 1, .int .u64 1])).isSome = true := by kernel_rfl
theorem key12 : (keyOf Yba.prog 72 (.agg #[.int .u64 1, .int .u64 2])).isSome = true := by kernel_rfl
theorem key_some (a : Id) : (keyOf Yba.prog 72 (idV a)).isSome = true := by
  obtain ⟨⟨d, i⟩, h1, h2, h3, h4⟩ := a
  simp only at h1 h2 h3 h4
  unfold idV
  simp only
  rcases (show d = 0 ∨ d = 1 by omega) with rfl | rfl <;> rcases (show i = 0 ∨ i = 1 ∨ i = 2 by omega) with rfl | rfl | rfl
  · exact key00
  · exact key01
  · exact key02
  · exact key10
  · exact key11
  · exact key12
theorem lit_exists : ∃ lit, LitOk lit :=
  ⟨fun a => (keyOf Yba.prog 72 (idV a)).get (key_some a), fun a => (Option.some_get (key_some a)).symm⟩

/-! ### what the index holds -/
/-- The index behind the first k entries: the last one not gone with that id. -/
def atF (E : Nat → Ent) : Nat → Id → Option Int
  | 0, _ => none
  | k + 1, a => if (E k).gn = false ∧ (idOf (E k)).1 = a.1 then some (k : Int) else atF E k a
theorem atF_gone (E : Nat → Ent) (k : Nat) (h : (E k).gn = true) : atF E (k + 1) = atF E k := by
  funext a; show (if _ then _ else _) = _; rw [if_neg (by rw [h]; simp)]
theorem atF_at (E : Nat → Ent) (k : Nat) (h : (E k).gn = false) : atF E (k + 1) (idOf (E k)) = some (k : Int) := if_pos ⟨h, rfl⟩
theorem atF_other (E : Nat → Ent) (k : Nat) (a : Id) (h : a ≠ idOf (E k)) : atF E (k + 1) a = atF E k a :=
  if_neg (fun e => h (Subtype.ext e.2.symm))
theorem pk_atF (E : Nat → Ent) (a : Id) : ∀ n, pk E a.1.1 a.1.2 n = (atF E n a).getD (-1)
  | 0 => rfl
  | k + 1 => by
    by_cases h : (E k).gn = false ∧ (idOf (E k)).1 = a.1
    · show (if _ then _ else _) = (if _ then _ else _ : Option Int).getD (-1)
      rw [if_pos h, if_pos ⟨h.1, congrArg Prod.fst h.2, congrArg Prod.snd h.2⟩]; rfl
    · show (if _ then _ else _) = (if _ then _ else _ : Option Int).getD (-1)
      rw [if_neg h, if_neg (fun e => h ⟨e.1, Prod.ext e.2.1 e.2.2⟩)]
      exact pk_atF E a k
theorem atF_some (E : Nat → Ent) (a : Id) : ∀ k {x : Int}, atF E k a = some x → ∃ j : Nat, x = j ∧ j < k ∧ (E j).gn = false ∧ idOf (E j) = a ∧ ∀ m, j < m → m < k → ¬ ((E m).gn = false ∧ idOf (E m) = a)
  | 0, x, h => by simp [atF] at h
  | k + 1, x, h => by
    by_cases c : (E k).gn = false ∧ (idOf (E k)).1 = a.1
    · have h' : some (k : Int) = some x := by rw [← h]; exact (if_pos c).symm
      injection h' with h'
      exact ⟨k, h'.symm, by omega, c.1, Subtype.ext c.2, fun m h1 h2 => by omega⟩
    · have h' : atF E k a = some x := by rw [← h]; exact (if_neg c).symm
      obtain ⟨j, e1, e2, e3, e4, e5⟩ := atF_some E a k h'
      refine ⟨j, e1, by omega, e3, e4, fun m h1 h2 => ?_⟩
      by_cases e : m = k
      · subst e; exact fun e' => c ⟨e'.1, congrArg Subtype.val e'.2⟩
      · exact e5 m h1 (by omega)
theorem atF_none (E : Nat → Ent) (a : Id) : ∀ k, atF E k a = none → ∀ m, m < k → ¬ ((E m).gn = false ∧ idOf (E m) = a)
  | 0, _, m, h => by omega
  | k + 1, h, m, hm => by
    by_cases c : (E k).gn = false ∧ (idOf (E k)).1 = a.1
    · have : atF E (k + 1) a = some (k : Int) := if_pos c
      rw [h] at this; cases this
    · have h' : atF E k a = none := by rw [← h]; exact (if_neg c).symm
      by_cases e : m = k
      · subst e; exact fun e' => c ⟨e'.1, congrArg Subtype.val e'.2⟩
      · exact atF_none E a k h' m (by omega)
/-- The marks 'gone' behind the first k entries. -/
def gsF (E : Nat → Ent) : Nat → Nat → Bool
  | 0, i => (E i).gn
  | k + 1, i => if i < k ∧ (E k).gn = false ∧ (idOf (E k)).1 = (idOf (E i)).1 then true else gsF E k i
theorem gsF_late (E : Nat → Ent) (i : Nat) : ∀ k, k ≤ i + 1 → gsF E k i = (E i).gn
  | 0, _ => rfl
  | k + 1, h => by
    show (if _ then _ else _) = _
    rw [if_neg (fun e => by omega)]; exact gsF_late E i k (by omega)
theorem gsF_mono (E : Nat → Ent) (i : Nat) (k : Nat) (h : gsF E k i = true) : ∀ n, k ≤ n → gsF E n i = true
  | 0, hn => by rw [Nat.le_zero.1 hn] at h; exact h
  | n + 1, hn => by
    by_cases e : k = n + 1
    · rw [← e]; exact h
    · show (if _ then _ else _) = _
      split
      · rfl
      · exact gsF_mono E i k h n (by omega)
theorem gsF_gone (E : Nat → Ent) (k : Nat) (h : (E k).gn = true) (i : Nat) : gsF E (k + 1) i = gsF E k i := by
  show (if _ then _ else _) = _
  rw [if_neg (fun e => by rw [h] at e; exact absurd e.2.1 (by simp))]
theorem gsF_own (E : Nat → Ent) (k i : Nat) (h : (E i).gn = true) : gsF E k i = true := gsF_mono E i 0 h k (Nat.zero_le _)
/-- No entry before with that id: no mark is set. -/
theorem gsF_none (E : Nat → Ent) (k : Nat) (h : atF E k (idOf (E k)) = none) (i : Nat) : gsF E (k + 1) i = gsF E k i := by
  show (if _ then _ else _) = _
  by_cases c : i < k ∧ (E k).gn = false ∧ (idOf (E k)).1 = (idOf (E i)).1
  · rw [if_pos c]
    have := atF_none E _ k h i c.1
    cases hg : (E i).gn
    · exact absurd ⟨hg, Subtype.ext c.2.2.symm⟩ this
    · exact (gsF_own E k i hg).symm
  · rw [if_neg c]
/-- The entry before with that id is marked. -/
theorem gsF_some (E : Nat → Ent) (k j : Nat) (hk : (E k).gn = false) (h : atF E k (idOf (E k)) = some (j : Int)) (i : Nat) : gsF E (k + 1) i = if i = j then true else gsF E k i := by
  obtain ⟨j', e1, e2, e3, e4, e5⟩ := atF_some E _ k h
  obtain rfl : j = j' := by omega
  show (if _ then _ else _) = _
  by_cases c : i < k ∧ (E k).gn = false ∧ (idOf (E k)).1 = (idOf (E i)).1
  · rw [if_pos c]
    by_cases e : i = j
    · rw [if_pos e]
    · rw [if_neg e]
      cases hg : (E i).gn
      · have hlt : i < j := by
          rcases Nat.lt_or_ge j i with h1 | h1
          · exact absurd ⟨hg, Subtype.ext c.2.2.symm⟩ (e5 i h1 c.1)
          · omega
        have : gsF E (j + 1) i = true := if_pos ⟨hlt, e3, by rw [e4]; exact c.2.2⟩
        exact (gsF_mono E i (j + 1) this k (by omega)).symm
      · exact (gsF_own E k i hg).symm
  · rw [if_neg c]
    by_cases e : i = j
    · exact absurd ⟨by omega, hk, by rw [e, e4]⟩ c
    · rw [if_neg e]
end Go.Proofs.Ybulkbpk
