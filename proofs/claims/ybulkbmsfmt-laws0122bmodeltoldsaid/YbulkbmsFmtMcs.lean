/-
  Plain, no Go: a maximum cardinality search, its order so far; at its end Gr.PropP holds.
-/
import Derived.Test.YbulkbmsFmtGraph
import Derived.Test.YbulkbmsFmtReach
namespace Go.Proofs.YbulkbmsFmt.Gr

theorem length_le_of_sub : ∀ (L M : List Nat), L.Nodup → (∀ v ∈ L, v ∈ M) → L.length ≤ M.length
  | [], M, _, _ => Nat.zero_le _
  | v :: r, M, hd, h => by
    have hv : v ∈ M := h v (by simp)
    have hr := (List.nodup_cons.1 hd)
    have h1 := length_le_of_sub r (M.erase v) hr.2 fun x hx => by
      have hne : x ≠ v := fun e => hr.1 (e ▸ hx)
      exact (List.mem_erase_of_ne hne).2 (h x (by simp [hx]))
    have h2 := List.length_erase_of_mem hv
    have h3 : 0 < M.length := List.length_pos_of_mem hv
    simp only [List.length_cons]
    omega
theorem filter_lt (p q : Nat → Bool) : ∀ (S : List Nat) (a : Nat), (∀ d ∈ S, p d = true → q d = true) → a ∈ S → q a = true → p a = false → (S.filter p).length < (S.filter q).length
  | [], a, _, h, _, _ => by simp at h
  | d :: r, a, hpq, ha, hq, hp => by
    have hle : (r.filter p).length ≤ (r.filter q).length := by
      have : ∀ (T : List Nat), (∀ d ∈ T, p d = true → q d = true) → (T.filter p).length ≤ (T.filter q).length := by
        intro T
        induction T with
        | nil => intro _; exact Nat.le_refl _
        | cons x T ih =>
          intro hT
          have h1 := ih fun d hd => hT d (by simp [hd])
          have h2 := hT x (by simp)
          cases hx : p x
          · rw [List.filter_cons_of_neg (by simp [hx])]
            cases hy : q x
            · rw [List.filter_cons_of_neg (by simp [hy])]; exact h1
            · rw [List.filter_cons_of_pos hy]; simp only [List.length_cons]; omega
          · rw [List.filter_cons_of_pos hx, List.filter_cons_of_pos (h2 hx)]; simp only [List.length_cons]; omega
      exact this r fun d hd => hpq d (by simp [hd])
    rcases List.mem_cons.1 ha with e | e
    · subst e
      rw [List.filter_cons_of_neg (by simp [hp]), List.filter_cons_of_pos hq]
      simp only [List.length_cons]; omega
    · have ih := filter_lt p q r a (fun d hd => hpq d (by simp [hd])) e hq hp
      cases hx : p d
      · rw [List.filter_cons_of_neg (by simp [hx])]
        cases hy : q d
        · rw [List.filter_cons_of_neg (by simp [hy])]; exact ih
        · rw [List.filter_cons_of_pos hy]; simp only [List.length_cons]; omega
      · rw [List.filter_cons_of_pos hx, List.filter_cons_of_pos (hpq d (by simp) hx)]; simp only [List.length_cons]; omega

/-- How many of the visited are joined to u. -/
def cnt (adj : Nat → Nat → Bool) (ord : List Nat) (u : Nat) : Nat := (ord.filter fun w => adj w u).length
theorem cnt_snoc (adj : Nat → Nat → Bool) (ord : List Nat) (v u : Nat) : cnt adj (ord ++ [v]) u = cnt adj ord u + if adj v u = true then 1 else 0 := by
  unfold cnt
  rw [List.filter_append, List.length_append]
  cases h : adj v u <;> simp [h]

structure Mcs (adj : Nat → Nat → Bool) (n : Nat) (ord : List Nat) : Prop where
  nodup : ord.Nodup
  lt : ∀ v ∈ ord, v < n
  most : ∀ j b, ord[j]? = some b → ∀ c, c < n → c ∉ ord.take j → cnt adj (ord.take j) c ≤ cnt adj (ord.take j) b
theorem Mcs.begin (adj : Nat → Nat → Bool) (n : Nat) : Mcs adj n [] := ⟨by simp, fun v h => by simp at h, fun j b h => by simp at h⟩
theorem Mcs.next {adj : Nat → Nat → Bool} {n : Nat} {ord : List Nat} (h : Mcs adj n ord) {v : Nat} (hv : v < n) (hno : v ∉ ord) (hmax : ∀ u, u < n → u ∉ ord → cnt adj ord u ≤ cnt adj ord v) : Mcs adj n (ord ++ [v]) := by
  refine ⟨?_, fun x hx => ?_, fun j b hj c hc hcn => ?_⟩
  · rw [List.nodup_append]
    refine ⟨h.nodup, by simp, fun a ha b hb e => ?_⟩
    simp at hb; subst hb; subst e; exact hno ha
  · rcases List.mem_append.1 hx with e | e
    · exact h.lt x e
    · simp at e; subst e; exact hv
  · by_cases hlt : j < ord.length
    · rw [List.getElem?_append_left hlt] at hj
      rw [List.take_append_of_le_length (by omega)] at hcn ⊢
      exact h.most j b hj c hc hcn
    · have he : j = ord.length := by
        have := (List.getElem?_eq_some_iff.1 hj).1
        simp at this; omega
      subst he
      simp at hj; subst hj
      simp at hcn ⊢
      exact hmax c hc hcn
theorem more_left {n : Nat} {ord : List Nat} (hl : ord.length < n) : ∃ u, u < n ∧ u ∉ ord := by
  apply Classical.byContradiction
  intro hx
  have : (List.range n).length ≤ ord.length := length_le_of_sub _ _ List.nodup_range fun v hv => by
    apply Classical.byContradiction
    intro e
    exact hx ⟨v, List.mem_range.1 hv, e⟩
  simp at this
  omega
theorem Mcs.short {adj : Nat → Nat → Bool} {n : Nat} {ord : List Nat} (h : Mcs adj n ord) : ord.length ≤ n := short_of n ord h.nodup h.lt

/-- The order is whole: every vertex has its place. -/
theorem Mcs.all {adj : Nat → Nat → Bool} {n : Nat} {ord : List Nat} (h : Mcs adj n ord) (hl : ord.length = n) {v : Nat} (hv : v < n) : v ∈ ord := by
  apply Classical.byContradiction
  intro hno
  have h1 := short_of n (v :: ord) (List.nodup_cons.2 ⟨hno, h.nodup⟩) fun x hx => by
    rcases List.mem_cons.1 hx with e | e
    · subst e; exact hv
    · exact h.lt x e
  simp at h1
  omega
theorem place_of {ord : List Nat} {pos : Nat → Nat} (hpos : ∀ j v, ord[j]? = some v → pos v = j) {v : Nat} (hv : v ∈ ord) : ord[pos v]? = some v := by
  obtain ⟨j, hj, he⟩ := List.mem_iff_getElem.1 hv
  have h1 : ord[j]? = some v := by rw [List.getElem?_eq_getElem hj, he]
  rw [hpos j v h1]; exact h1
theorem Mcs.inj {adj : Nat → Nat → Bool} {n : Nat} {ord : List Nat} (h : Mcs adj n ord) (hl : ord.length = n) {pos : Nat → Nat} (hpos : ∀ j v, ord[j]? = some v → pos v = j) (a b : Nat) (ha : a < n) (hb : b < n) (e : pos a = pos b) : a = b := by
  have h1 := place_of hpos (h.all hl ha)
  have h2 := place_of hpos (h.all hl hb)
  rw [e, h2] at h1
  injection h1 with h1
  exact h1.symm
theorem Mcs.propP {adj : Nat → Nat → Bool} {n : Nat} {ord : List Nat} (h : Mcs adj n ord) (hl : ord.length = n) {pos : Nat → Nat} (hpos : ∀ j v, ord[j]? = some v → pos v = j) : PropP adj n pos := by
  intro a b c ha hb hc hab hbc hac hanb
  have pa := place_of hpos (h.all hl ha)
  have pb := place_of hpos (h.all hl hb)
  have pc := place_of hpos (h.all hl hc)
  have inTake : ∀ x, x ∈ ord.take (pos b) → pos x < pos b ∧ x < n := fun x hx => by
    obtain ⟨j, hj, he⟩ := List.mem_iff_getElem.1 hx
    have hj' : j < pos b := by simp at hj; omega
    have h1 : ord[j]? = some x := by
      have : (ord.take (pos b))[j]? = some x := by rw [List.getElem?_eq_getElem hj, he]
      rw [List.getElem?_take_of_lt hj'] at this; exact this
    rw [hpos j x h1]
    exact ⟨hj', h.lt x (List.mem_of_getElem? h1)⟩
  have haT : a ∈ ord.take (pos b) := List.mem_of_getElem? (i := pos a) (by rw [List.getElem?_take_of_lt hab]; exact pa)
  have hcT : c ∉ ord.take (pos b) := fun e => by have := (inTake c e).1; omega
  have hm := h.most (pos b) b pb c hc hcT
  apply Classical.byContradiction
  intro hx
  have hsub : ∀ d ∈ ord.take (pos b), adj d b = true → adj d c = true := fun d hd hdb => by
    cases e : adj d c
    · exact absurd ⟨d, (inTake d hd).2, (inTake d hd).1, hdb, e⟩ hx
    · rfl
  have := filter_lt (fun w => adj w b) (fun w => adj w c) (ord.take (pos b)) a hsub haT hac hanb
  unfold cnt at hm
  omega
end Go.Proofs.YbulkbmsFmt.Gr
