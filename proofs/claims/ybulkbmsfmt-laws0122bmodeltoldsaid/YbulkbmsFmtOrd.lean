import Derived.Test.YbulkbmsFmtEl
namespace Go.Proofs.YbulkbmsFmt
open Go.RowKit

/-- Which vertex is picked. -/
def Pick (adj : Nat → Nat → Bool) (ord : List Nat) (u : Nat) (z : Int) : Prop :=
  (z = -1 ∧ ∀ y, y < u → y ∈ ord) ∨ ∃ v0 : Nat, z = (v0 : Int) ∧ v0 < u ∧ v0 ∉ ord ∧ ∀ y, y < u → y ∉ ord → Gr.cnt adj ord y ≤ Gr.cnt adj ord v0
theorem Pick.seen {adj : Nat → Nat → Bool} {ord : List Nat} {u : Nat} {z : Int} (h : Pick adj ord u z) (hu : u ∈ ord) : Pick adj ord (u + 1) z := by
  rcases h with ⟨h1, h2⟩ | ⟨v0, h1, h2, h3, h4⟩
  · refine Or.inl ⟨h1, fun y hy => ?_⟩
    by_cases e : y = u
    · subst e; exact hu
    · exact h2 y (by omega)
  · refine Or.inr ⟨v0, h1, by omega, h3, fun y hy hn => ?_⟩
    by_cases e : y = u
    · subst e; exact absurd hu hn
    · exact h4 y (by omega) hn
theorem Pick.first {adj : Nat → Nat → Bool} {ord : List Nat} {u : Nat} (h : ∀ y, y < u → y ∈ ord) (hu : u ∉ ord) : Pick adj ord (u + 1) (u : Int) := by
  refine Or.inr ⟨u, rfl, by omega, hu, fun y hy hn => ?_⟩
  by_cases e : y = u
  · subst e; exact Nat.le_refl _
  · exact absurd (h y (by omega)) hn
theorem Pick.better {adj : Nat → Nat → Bool} {ord : List Nat} {u v0 : Nat} (h : ∀ y, y < u → y ∉ ord → Gr.cnt adj ord y ≤ Gr.cnt adj ord v0) (hu : u ∉ ord) (hc : Gr.cnt adj ord v0 < Gr.cnt adj ord u) : Pick adj ord (u + 1) (u : Int) := by
  refine Or.inr ⟨u, rfl, by omega, hu, fun y hy hn => ?_⟩
  by_cases e : y = u
  · subst e; exact Nat.le_refl _
  · have := h y (by omega) hn; omega
theorem Pick.keep {adj : Nat → Nat → Bool} {ord : List Nat} {u v0 : Nat} (hv : v0 < u) (h0 : v0 ∉ ord) (h : ∀ y, y < u → y ∉ ord → Gr.cnt adj ord y ≤ Gr.cnt adj ord v0) (hc : ¬ Gr.cnt adj ord v0 < Gr.cnt adj ord u) : Pick adj ord (u + 1) (v0 : Int) := by
  refine Or.inr ⟨v0, rfl, by omega, h0, fun y hy hn => ?_⟩
  by_cases e : y = u
  · subst e; omega
  · exact h y (by omega) hn
theorem Pick.over {adj : Nat → Nat → Bool} {n : Nat} {ord : List Nat} {z : Int} (h : Pick adj ord n z) (hl : ord.length < n) : ∃ v0 : Nat, z = (v0 : Int) ∧ v0 < n ∧ v0 ∉ ord ∧ ∀ y, y < n → y ∉ ord → Gr.cnt adj ord y ≤ Gr.cnt adj ord v0 := by
  rcases h with ⟨_, h2⟩ | h
  · obtain ⟨u, h3, h4⟩ := Gr.more_left hl
    exact absurd (h2 u h3) h4
  · exact h
/-- The order so far, in plain words. -/
structure Ord (adj : Nat → Nat → Bool) (n : Nat) (ord : List Nat) (rk : Nat → Int) : Prop where
  mcs : Gr.Mcs adj n ord
  rank : ∀ (j v : Nat), ord[j]? = some v → rk v = (n : Int) - 1 - (j : Int)
theorem Ord.next {adj : Nat → Nat → Bool} {n : Nat} {ord : List Nat} {rk : Nat → Int} (h : Ord adj n ord rk) {v : Nat} (hv : v < n) (hno : v ∉ ord) (hmax : ∀ y, y < n → y ∉ ord → Gr.cnt adj ord y ≤ Gr.cnt adj ord v) {z : Int} (hz : z = (n : Int) - 1 - (ord.length : Int)) :
    Ord adj n (ord ++ [v]) (fun x => if x = v then z else rk x) := by
  refine ⟨h.mcs.next hv hno hmax, fun j x hj => ?_⟩
  by_cases e : j < ord.length
  · rw [List.getElem?_append_left e] at hj
    have : x ≠ v := fun e2 => hno (e2 ▸ List.mem_of_getElem? hj)
    rw [if_neg this]
    exact h.rank j x hj
  · have hj' : j = ord.length := by
      have := (List.getElem?_eq_some_iff.1 hj).1
      simp at this; omega
    subst hj'
    simp at hj
    subst hj
    rw [if_pos rfl, hz]
theorem not_in_take {L : List Nat} (hd : L.Nodup) {q y : Nat} (h : L[q]? = some y) : y ∉ L.take q := by
  intro hm
  have h1 : (L.take q ++ L.drop q).Nodup := by rw [List.take_append_drop]; exact hd
  refine (List.nodup_append.1 h1).2.2 y hm y ?_ rfl
  have h2 : (L.drop q)[0]? = some y := by simpa using h
  exact List.mem_of_getElem? h2
/-- The later neighbours of v are joined to each other. -/
theorem Ord.clique {adj : Nat → Nat → Bool} {n : Nat} {ord : List Nat} {rk : Nat → Int} (h : Ord adj n ord rk) (hl : ord.length = n) (E : Gr.Elim adj) {nb : Nat → List Nat} (N : Gr.Nbs adj nb n) {v x y : Nat} (hv : v < n) (hx : x ∈ nb v) (hy : y ∈ nb v) (rx : rk v < rk x) (ry : rk v < rk y) (hxy : x ≠ y) : y ∈ nb x := by
  have hpos : ∀ (j u : Nat), ord[j]? = some u → (fun u => ((n : Int) - 1 - rk u).toNat) u = j := fun j u hj => by
    show ((n : Int) - 1 - rk u).toNat = j
    rw [h.rank j u hj]
    omega
  have hxn := (N.iff v x hv).1 hx
  have hyn := (N.iff v y hv).1 hy
  have lt : ∀ u, u < n → rk v < rk u → (fun u => ((n : Int) - 1 - rk u).toNat) u < (fun u => ((n : Int) - 1 - rk u).toNat) v := fun u hu hr => by
    have p1 := Gr.place_of hpos (h.mcs.all hl hu)
    have p2 := Gr.place_of hpos (h.mcs.all hl hv)
    have q1 := h.rank _ _ p1
    have q2 := h.rank _ _ p2
    show ((n : Int) - 1 - rk u).toNat < ((n : Int) - 1 - rk v).toNat
    have q1' : rk u = (n : Int) - 1 - (((n : Int) - 1 - rk u).toNat : Int) := q1
    have q2' : rk v = (n : Int) - 1 - (((n : Int) - 1 - rk v).toNat : Int) := q2
    omega
  have := Gr.clique_before E (h.mcs.inj hl hpos) (h.mcs.propP hl hpos) hxn.1 hyn.1 hv (by rw [N.sym]; exact hxn.2) (by rw [N.sym]; exact hyn.2) (lt x hxn.1 rx) (lt y hyn.1 ry) hxy
  exact (N.iff x y hxn.1).2 ⟨hyn.1, this⟩
theorem cnt_step {adj : Nat → Nat → Bool} {nb : Nat → List Nat} {n : Nat} (N : Gr.Nbs adj nb n) (ord : List Nat) {v : Nat} (hv : v < n) (u : Nat) (hu : u < n) : Gr.cnt adj ord u + (if u ∈ nb v then 1 else 0) = Gr.cnt adj (ord ++ [v]) u := by
  rw [Gr.cnt_snoc]
  by_cases e : u ∈ nb v
  · rw [if_pos e, if_pos ((N.iff v u hv).1 e).2]
  · rw [if_neg e, if_neg (fun h => e ((N.iff v u hv).2 ⟨hu, h⟩))]

theorem Ybaf.info23 : (Ybaf.prog.info? 23).map (fun i => (i.zero, i.size, i.bytes)) = some (some (.slice none 0 0), 1, 24) := by kernel_rfl
/-- v's clique, so far. -/
def clq (nb : Nat → List Nat) (rk : Nat → Int) (v q : Nat) : List Nat := v :: ((nb v).take q).filter (fun u => decide (rk v < rk u))
theorem clq_zero (nb : Nat → List Nat) (rk : Nat → Int) (v : Nat) : clq nb rk v 0 = [v] := by simp [clq]
theorem clq_yes {nb : Nat → List Nat} {rk : Nat → Int} {v q u : Nat} (h : (nb v)[q]? = some u) (hr : rk v < rk u) : clq nb rk v (q + 1) = clq nb rk v q ++ [u] := by
  unfold clq
  rw [List.take_add_one, h, List.filter_append]
  simp [hr]
theorem clq_no {nb : Nat → List Nat} {rk : Nat → Int} {v q u : Nat} (h : (nb v)[q]? = some u) (hr : ¬ rk v < rk u) : clq nb rk v (q + 1) = clq nb rk v q := by
  unfold clq
  rw [List.take_add_one, h, List.filter_append]
  simp [hr]
theorem clq_short {adj : Nat → Nat → Bool} (E : Gr.Elim adj) {nb : Nat → List Nat} {n : Nat} (N : Gr.Nbs adj nb n) (rk : Nat → Int) {v : Nat} (hv : v < n) (q : Nat) : (clq nb rk v q).length ≤ n ∧ ∀ x ∈ clq nb rk v q, x < n := by
  have hm : ∀ x ∈ ((nb v).take q).filter (fun u => decide (rk v < rk u)), x ∈ nb v := fun x hx => List.mem_of_mem_take (List.mem_filter.1 hx).1
  have hlt : ∀ x ∈ clq nb rk v q, x < n := fun x hx => by
    rcases List.mem_cons.1 hx with e | e
    · subst e; exact hv
    · exact ((N.iff v x hv).1 (hm x e)).1
  refine ⟨Gr.short_of n _ ?_ hlt, hlt⟩
  refine List.nodup_cons.2 ⟨fun e => ?_, ((N.nodup v hv).sublist (List.take_sublist _ _)).filter _⟩
  have := ((N.iff v v hv).1 (hm v e)).2
  rw [E.irr] at this
  cases this
theorem clq_get {nb : Nat → List Nat} {rk : Nat → Int} {v q j u : Nat} (h : (clq nb rk v q)[j + 1]? = some u) : u ∈ nb v ∧ rk v < rk u := by
  have h1 : (((nb v).take q).filter (fun u => decide (rk v < rk u)))[j]? = some u := by simpa [clq] using h
  have h2 := List.mem_of_getElem? h1
  rw [List.mem_filter] at h2
  exact ⟨List.mem_of_mem_take h2.1, by simpa using h2.2⟩

end Go.Proofs.YbulkbmsFmt
