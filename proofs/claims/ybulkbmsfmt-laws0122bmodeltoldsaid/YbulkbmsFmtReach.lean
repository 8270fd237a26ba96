/-
  Plain, no Go: what a search reaches; sums over what it reaches.
-/
namespace Go.Proofs.YbulkbmsFmt.Gr

/-- v is reached from s over vertices that are not blocked (s itself in any case). -/
def Reach (adj : Nat → Nat → Bool) (bl : Nat → Bool) (s v : Nat) : Prop :=
  ∀ S : Nat → Prop, S s → (∀ a b, S a → adj a b = true → bl b = false → S b) → S v

theorem Reach.self (adj : Nat → Nat → Bool) (bl : Nat → Bool) (s : Nat) : Reach adj bl s s := fun _ h _ => h
theorem Reach.step {adj : Nat → Nat → Bool} {bl : Nat → Bool} {s a b : Nat} (h : Reach adj bl s a) (hab : adj a b = true) (hb : bl b = false) : Reach adj bl s b :=
  fun S h0 hc => hc a b (h S h0 hc) hab hb
theorem Reach.trans {adj : Nat → Nat → Bool} {bl : Nat → Bool} {s a b : Nat} (h : Reach adj bl s a) (k : Reach adj bl a b) : Reach adj bl s b :=
  k (fun x => Reach adj bl s x) h fun _ _ hx hxy hy => hx.step hxy hy
theorem Reach.free {adj : Nat → Nat → Bool} {bl : Nat → Bool} {s v : Nat} (h : Reach adj bl s v) (hs : bl s = false) : bl v = false :=
  h (fun x => bl x = false) hs fun _ _ _ _ hb => hb
theorem Reach.symm {adj : Nat → Nat → Bool} (hsy : ∀ a b, adj a b = adj b a) {bl : Nat → Bool} {s v : Nat} (hs : bl s = false) (h : Reach adj bl s v) : Reach adj bl v s := by
  have := h (fun x => bl x = false ∧ Reach adj bl x s) ⟨hs, Reach.self _ _ _⟩ fun a b ha hab hb => ⟨hb, ((Reach.self adj bl b).step (by rw [hsy]; exact hab) ha.1).trans ha.2⟩
  exact this.2
/-- What is closed and holds the start holds all that is reached. -/
theorem Reach.inside {adj : Nat → Nat → Bool} {bl : Nat → Bool} {s v : Nat} (h : Reach adj bl s v) (S : Nat → Prop) (h0 : S s) (hc : ∀ a b, S a → adj a b = true → bl b = false → S b) : S v := h S h0 hc

/-- The sum of the weights over a list. -/
def isum (w : Nat → Int) : List Nat → Int
  | [] => 0
  | v :: r => w v + isum w r
theorem isum_append (w : Nat → Int) : ∀ l r, isum w (l ++ r) = isum w l + isum w r
  | [], r => by simp [isum]
  | v :: l, r => by simp only [List.cons_append, isum, isum_append w l r]; omega
theorem isum_perm (w : Nat → Int) {l r : List Nat} (h : l.Perm r) : isum w l = isum w r := by
  induction h with
  | nil => rfl
  | cons x _ ih => simp only [isum, ih]
  | swap x y l => simp only [isum]; omega
  | trans _ _ h1 h2 => exact h1.trans h2

/-- The list of what is reached. -/
structure IsReach (adj : Nat → Nat → Bool) (bl : Nat → Bool) (s : Nat) (L : List Nat) : Prop where
  nodup : L.Nodup
  mem : ∀ v, v ∈ L ↔ Reach adj bl s v
theorem IsReach.sum_eq {adj : Nat → Nat → Bool} {bl : Nat → Bool} {s : Nat} {L L' : List Nat} (h : IsReach adj bl s L) (h' : IsReach adj bl s L') (w : Nat → Int) : isum w L = isum w L' :=
  isum_perm w ((List.perm_ext_iff_of_nodup h.nodup h'.nodup).2 fun v => (h.mem v).trans (h'.mem v).symm)

/-- A search under way: the list so far, the marks, how many of the list are done; of the one that is looked at, how many of its neighbours. -/
structure Search (adj : Nat → Nat → Bool) (nb : Nat → List Nat) (n : Nat) (bl : Nat → Bool) (s : Nat) (seen : Nat → Bool) (L : List Nat) (t q : Nat) : Prop where
  nodup : L.Nodup
  start : s ∈ L
  lt : ∀ v ∈ L, v < n
  free : ∀ v ∈ L, v = s ∨ bl v = false
  reach : ∀ v ∈ L, Reach adj bl s v
  seen_iff : ∀ v, v < n → (seen v = true ↔ bl v = true ∨ v ∈ L)
  done : ∀ j v, j < t → L[j]? = some v → ∀ u ∈ nb v, seen u = true
  part : ∀ v, L[t]? = some v → ∀ i u, i < q → (nb v)[i]? = some u → seen u = true

/-- The marks behind one more. -/
def mark (f : Nat → Bool) (u : Nat) : Nat → Bool := fun v => if v = u then true else f v
theorem mark_self (f : Nat → Bool) (u : Nat) : mark f u u = true := if_pos rfl
theorem mark_of (f : Nat → Bool) (u : Nat) {v : Nat} (h : f v = true) : mark f u v = true := by unfold mark; split <;> first | rfl | exact h

structure Nbs (adj : Nat → Nat → Bool) (nb : Nat → List Nat) (n : Nat) : Prop where
  iff : ∀ v u, v < n → (u ∈ nb v ↔ (u < n ∧ adj v u = true))
  sym : ∀ a b, adj a b = adj b a
  lt : ∀ a b, adj a b = true → a < n ∧ b < n
  nodup : ∀ v, v < n → (nb v).Nodup

theorem Search.begin {adj : Nat → Nat → Bool} {nb : Nat → List Nat} {n : Nat} {bl : Nat → Bool} {s : Nat} (hs : s < n) : Search adj nb n bl s (mark bl s) [s] 0 0 := by
  refine ⟨by simp, by simp, fun v hv => ?_, fun v hv => ?_, fun v hv => ?_, fun v _ => ?_, fun j v h => by omega, fun v _ i u h => by omega⟩
  · simp at hv; subst hv; exact hs
  · simp at hv; exact Or.inl hv
  · simp at hv; subst hv; exact Reach.self _ _ _
  · unfold mark
    by_cases e : v = s
    · simp [e]
    · simp [e]
/-- A neighbour that is marked. -/
theorem Search.skip {adj : Nat → Nat → Bool} {nb : Nat → List Nat} {n : Nat} {bl : Nat → Bool} {s : Nat} {seen : Nat → Bool} {L : List Nat} {t q v u : Nat} (h : Search adj nb n bl s seen L t q) (hv : L[t]? = some v) (hu : (nb v)[q]? = some u) (hsu : seen u = true) :
    Search adj nb n bl s seen L t (q + 1) := by
  refine ⟨h.nodup, h.start, h.lt, h.free, h.reach, h.seen_iff, h.done, fun v' hv' i x hi hx => ?_⟩
  rw [hv] at hv'; injection hv' with hv'; subst hv'
  by_cases e : i = q
  · subst e; rw [hu] at hx; injection hx with hx; subst hx; exact hsu
  · exact h.part v hv i x (by omega) hx
/-- A neighbour that is not. -/
theorem Search.take {adj : Nat → Nat → Bool} {nb : Nat → List Nat} {n : Nat} (N : Nbs adj nb n) {bl : Nat → Bool} {s : Nat} {seen : Nat → Bool} {L : List Nat} {t q v u : Nat} (h : Search adj nb n bl s seen L t q) (hv : L[t]? = some v) (hu : (nb v)[q]? = some u) (hsu : seen u = false) :
    Search adj nb n bl s (mark seen u) (L ++ [u]) t (q + 1) := by
  have hvL : v ∈ L := List.mem_of_getElem? hv
  have hvn := h.lt v hvL
  have hun := (N.iff v u hvn).1 (List.mem_of_getElem? hu)
  have hbu : bl u = false := by
    cases e : bl u
    · rfl
    · rw [(h.seen_iff u hun.1).2 (Or.inl e)] at hsu; cases hsu
  have huL : u ∉ L := fun e => by rw [(h.seen_iff u hun.1).2 (Or.inr e)] at hsu; cases hsu
  have ht : t < L.length := (List.getElem?_eq_some_iff.1 hv).1
  refine ⟨?_, by simp [h.start], fun x hx => ?_, fun x hx => ?_, fun x hx => ?_, fun x hxn => ?_, fun j x hj hx y hy => ?_, fun x hx i y hi hy => ?_⟩
  · rw [List.nodup_append]
    refine ⟨h.nodup, by simp, fun a ha b hb => ?_⟩
    simp at hb; subst hb
    intro e; subst e; exact huL ha
  · rcases List.mem_append.1 hx with e | e
    · exact h.lt x e
    · simp at e; subst e; exact hun.1
  · rcases List.mem_append.1 hx with e | e
    · exact h.free x e
    · simp at e; subst e; exact Or.inr hbu
  · rcases List.mem_append.1 hx with e | e
    · exact h.reach x e
    · simp at e; subst e; exact (h.reach v hvL).step hun.2 hbu
  · unfold mark
    by_cases e : x = u
    · simp [e]
    · simp [e, h.seen_iff x hxn]
  · rw [List.getElem?_append_left (by omega)] at hx
    exact mark_of _ _ (h.done j x hj hx y hy)
  · rw [List.getElem?_append_left ht, hv] at hx
    injection hx with hx; subst hx
    by_cases e : i = q
    · subst e; rw [hu] at hy; injection hy with hy; subst hy; exact mark_self _ _
    · exact mark_of _ _ (h.part v hv i y (by omega) hy)
/-- All neighbours of one are looked at: on to the next. -/
theorem Search.next {adj : Nat → Nat → Bool} {nb : Nat → List Nat} {n : Nat} {bl : Nat → Bool} {s : Nat} {seen : Nat → Bool} {L : List Nat} {t q v : Nat} (h : Search adj nb n bl s seen L t q) (hv : L[t]? = some v) (hq : (nb v).length ≤ q) :
    Search adj nb n bl s seen L (t + 1) 0 := by
  refine ⟨h.nodup, h.start, h.lt, h.free, h.reach, h.seen_iff, fun j x hj hx y hy => ?_, fun _ _ i u hi => by omega⟩
  by_cases e : j = t
  · subst e
    rw [hv] at hx; injection hx with hx; subst hx
    obtain ⟨i, hi, he⟩ := List.mem_iff_getElem.1 hy
    exact h.part v hv i y (by omega) (by rw [List.getElem?_eq_getElem hi, he])
  · exact h.done j x (by omega) hx y hy
/-- All of the list is done: it is what is reached. -/
theorem Search.over {adj : Nat → Nat → Bool} {nb : Nat → List Nat} {n : Nat} (N : Nbs adj nb n) {bl : Nat → Bool} {s : Nat} {seen : Nat → Bool} {L : List Nat} {t q : Nat} (h : Search adj nb n bl s seen L t q) (ht : L.length ≤ t) : IsReach adj bl s L := by
  refine ⟨h.nodup, fun v => ⟨h.reach v, fun hr => ?_⟩⟩
  refine hr.inside (fun x => x ∈ L) h.start fun a b ha hab hb => ?_
  have han := h.lt a ha
  obtain ⟨j, hj, he⟩ := List.mem_iff_getElem.1 ha
  have hbn := (N.lt a b hab).2
  have := h.done j a (by omega) (by rw [List.getElem?_eq_getElem hj, he]) b ((N.iff a b han).2 ⟨hbn, hab⟩)
  rcases (h.seen_iff b hbn).1 this with e | e
  · rw [hb] at e; cases e
  · exact e
theorem short_of : ∀ (n : Nat) (L : List Nat), L.Nodup → (∀ v ∈ L, v < n) → L.length ≤ n
  | 0, L, _, h => by
    cases L with
    | nil => exact Nat.le_refl _
    | cons v r => exact absurd (h v (by simp)) (by omega)
  | n + 1, L, hd, h => by
    have h1 := short_of n (L.erase n) (hd.erase n) fun v hv => by
      have h2 := (hd.mem_erase_iff).1 hv
      have := h v h2.2
      have := h2.1
      omega
    have h3 := List.length_erase (a := n) (l := L)
    split at h3 <;> omega
theorem Search.short {adj : Nat → Nat → Bool} {nb : Nat → List Nat} {n : Nat} {bl : Nat → Bool} {s : Nat} {seen : Nat → Bool} {L : List Nat} {t q : Nat} (h : Search adj nb n bl s seen L t q) : L.length ≤ n := by
  exact short_of n L h.nodup h.lt
theorem Nbs.short {adj : Nat → Nat → Bool} {nb : Nat → List Nat} {n : Nat} (N : Nbs adj nb n) {v : Nat} (hv : v < n) : (nb v).length ≤ n :=
  short_of n _ (N.nodup v hv) fun u hu => ((N.iff v u hv).1 hu).1
end Go.Proofs.YbulkbmsFmt.Gr
