import Derived.Test.YbulkbmsFmtNewP
namespace Go.Proofs.YbulkbmsFmt
open Go.RowKit Go.Maps Go.Sort

/-- graph.New's memory while the neighbours are gathered. -/
structure N1 (w0 w : World) (g M ρ c bn n : Nat) (f : ByteArray → Option Int) (V : Nat → Value) (L : Nat → List Nat) : Prop where
  lo : w0.heap.size ≤ g ∧ w0.heap.size ≤ M ∧ w0.heap.size ≤ ρ ∧ g < bn ∧ M < bn ∧ ρ < bn ∧ g ≠ M ∧ g ≠ ρ ∧ M ≠ ρ
  size : bn < w.heap.size
  below : Below w0.heap.size w0 w
  labs : w.cell? ⟨g, 0, none⟩ = some (.slice (some ⟨ρ, 0, none⟩) n c)
  mp : w.cell? ⟨g, 1, none⟩ = some (.map (some M))
  nbs : w.cell? ⟨g, 2, none⟩ = some (.slice (some ⟨bn, 0, none⟩) n n)
  map : ∃ m q, MapS w M m f q
  rows : ∀ v, v < n → w.cell? ⟨bn, v, none⟩ = some (V v)
  free : ∀ v, v < n → w.frozen? ⟨bn, v, none⟩ = false
  own : ∀ v, v < n → w.ownsRow (bn + 1) 3 1 (V v) (L v).length (ints (L v))
  apart : ∀ u v, u < n → v < n → u ≠ v → ∀ k, (V u).ownBlock = some k → (V v).ownBlock ≠ some k
theorem own_fr2 {w w' : World} {base : Nat} {v : Value} {k : Nat} {xs : List Value} {ex : Nat → Prop} (h : w.ownsRow base 3 1 v k xs) (hk : Fr w w' ex) (hn : ∀ b, v.ownBlock = some b → ¬ ex b) : w'.ownsRow base 3 1 v k xs := by
  refine ⟨h.1, ?_⟩
  rcases h.2 with ⟨e, h0⟩ | ⟨g, cap, cur, e, hb, hg, r⟩
  · exact .inl ⟨e, h0⟩
  · refine .inr ⟨g, cap, cur, e, hb, (hk.block g (Array.getElem?_eq_some_iff.1 hg).1 (hn g ?_)).trans hg, r⟩
    subst e; rfl
theorem N1.fr {w0 w w' : World} {g M ρ c bn n : Nat} {f : ByteArray → Option Int} {V : Nat → Value} {L : Nat → List Nat} (h : N1 w0 w g M ρ c bn n f V L) (k : Fr w w' (fun _ => False)) : N1 w0 w' g M ρ c bn n f V L := by
  have hlo := h.lo
  have hs := h.size
  refine ⟨h.lo, by have := k.size; omega, h.below.trans (k.below h.below.size (fun _ e => e.elim)), k.cell h.labs (fun e => e), k.cell h.mp (fun e => e), k.cell h.nbs (fun e => e), ?_, fun v hv => k.cell (h.rows v hv) (fun e => e), fun v hv => (k.frozenAt (a := ⟨bn, v, none⟩) hs (fun e => e)).trans (h.free v hv), fun v hv => own_fr2 (h.own v hv) k (fun _ _ e => e), h.apart⟩
  obtain ⟨m, q, hm⟩ := h.map
  exact ⟨m, q, hm.block (k.block M hm.lt (fun e => e))⟩
theorem N1.drewN {w0 w : World} {g M ρ c bn n : Nat} {f : ByteArray → Option Int} {V : Nat → Value} {L : Nat → List Nat} (h : N1 w0 w g M ρ c bn n f V L) (q : Nat) : N1 w0 (w.drewN q) g M ρ c bn n f V L := h.fr (Fr.drewN w q _)
theorem N1.cong {w0 w : World} {g M ρ c bn n : Nat} {f : ByteArray → Option Int} {V : Nat → Value} {L L' : Nat → List Nat} (h : N1 w0 w g M ρ c bn n f V L) (e : ∀ v, v < n → L v = L' v) : N1 w0 w g M ρ c bn n f V L' :=
  ⟨h.lo, h.size, h.below, h.labs, h.mp, h.nbs, h.map, h.rows, h.free, fun v hv => by rw [← e v hv]; exact h.own v hv, h.apart⟩
/-- neighbours = make([][]int, n). -/
theorem n1_start {w0 w : World} {g M ρ c n : Nat} {f : ByteArray → Option Int} {k : Nat} (h : N0 w0 w g M ρ c n f k) :
    N1 w0 ((w.alloc (.cells (madeCells #[.slice none 0 0] n) 23)).setCell ⟨g, 2, none⟩ (.slice (some ⟨w.heap.size, 0, none⟩) n n)) g M ρ c w.heap.size n f (fun _ => .slice none 0 0) (fun _ => []) := by
  have hlo := h.lo
  have hhi := h.hi
  have hrow := World.rowIs_made w (.slice none 0 0) n 23
  have s0 : (w.alloc (.cells (madeCells #[.slice none 0 0] n) 23)).heap.size = w.heap.size + 1 := by simp
  have k0 := Fr.alloc w (.cells (madeCells #[.slice none 0 0] n) 23) (fun _ => False)
  generalize w.alloc (.cells (madeCells #[.slice none 0 0] n) 23) = W at *
  have kS := Fr.setCell W ⟨g, 2, none⟩ (.slice (some ⟨w.heap.size, 0, none⟩) n n) (fun y => y = g) rfl
  have oth : ∀ (j : Nat) (v : Value), j ≠ 2 → w.cell? ⟨g, j, none⟩ = some v → (W.setCell ⟨g, 2, none⟩ (.slice (some ⟨w.heap.size, 0, none⟩) n n)).cell? ⟨g, j, none⟩ = some v := fun j v hj h => by
    rw [World.cell?_setCell_other _ _ _ _ (by intro e; injection e with _ e _; omega)]
    exact k0.cell h (fun e => e)
  refine ⟨by omega, by simp; omega, (h.below.trans (k0.below h.below.size (fun _ e => e.elim))).trans (kS.below (by have := h.below.size; omega) (fun y e => by omega)), oth 0 _ (by omega) h.labs, oth 1 _ (by omega) h.mp, World.cell?_setCell_same _ _ _ (k0.cell h.nbs (fun e => e)), ?_, fun v hv => kS.cell (hrow.cell hv) (by simp; omega), fun v hv => by rw [World.frozen?_setCell]; exact hrow.frozen v, fun v _ => World.ownsRow_nil _ _ _ _, fun u v _ _ _ k hk => by simp [Value.ownBlock] at hk⟩
  obtain ⟨q, hm⟩ := h.map
  exact ⟨_, q, (hm.block (k0.block M hm.lt (fun e => e))).block (kS.block M (by have := hm.lt; omega) (by omega))⟩
/-- neighbours[u] = append(neighbours[u], x). -/
theorem N1.push {w0 w w1 : World} {g M ρ c bn n : Nat} {f : ByteArray → Option Int} {V : Nat → Value} {L : Nat → List Nat} (h : N1 w0 w g M ρ c bn n f V L) {u x ρ1 cap : Nat} (hu : u < n) {o : Obj} (hg : (w.alloc o).grownBy w1 (V u).ownBlock) (hown : w1.ownsRow (bn + 1) 3 1 (.slice (some ⟨ρ1, 0, none⟩) ((L u).length + 1) cap) ((L u).length + 1) (ints (L u) ++ [.int .i64 (x : Int)]))
    (hat : (V u).ownBlock = some ρ1 ∨ ρ1 = (w.alloc o).heap.size) :
    N1 w0 (w1.setCell ⟨bn, u, none⟩ (.slice (some ⟨ρ1, 0, none⟩) ((L u).length + 1) cap)) g M ρ c bn n f (fun v => if v = u then .slice (some ⟨ρ1, 0, none⟩) ((L u).length + 1) cap else V v) (fun v => if v = u then L u ++ [x] else L v) := by
  have hlo := h.lo
  have hs := h.size
  have hVb : ∀ v, v < n → ∀ b, (V v).ownBlock = some b → bn + 1 ≤ b ∧ b < w.heap.size := fun v hv b hb => (h.own v hv).lt b hb
  have ka : Fr w w1 (fun y => some y = (V u).ownBlock) := (Fr.alloc w o (fun y => some y = (V u).ownBlock)).trans (Fr.grown hg _ (fun y e => e.symm)) (fun _ _ e => e)
  have kS := Fr.setCell w1 ⟨bn, u, none⟩ (.slice (some ⟨ρ1, 0, none⟩) ((L u).length + 1) cap) (fun y => y = bn) rfl
  have kk : Fr w (w1.setCell ⟨bn, u, none⟩ (.slice (some ⟨ρ1, 0, none⟩) ((L u).length + 1) cap)) (fun y => y = bn ∨ some y = (V u).ownBlock) :=
    (ka.mono (fun _ _ e => Or.inr e)).trans (kS.mono (fun _ _ e => Or.inl e)) (fun _ _ e => e)
  have ne : ∀ y, y < bn → ¬ (y = bn ∨ some y = (V u).ownBlock) := fun y hy e => by
    rcases e with e | e
    · omega
    · have := hVb u hu y e.symm; omega
  have hbnne : ¬ (some bn = (V u).ownBlock) := fun e => by have := hVb u hu bn e.symm; omega
  have hρ1 := hown.lt ρ1 rfl
  have hw1 : w.heap.size ≤ w1.heap.size := ka.size
  refine ⟨h.lo, by simp; omega, h.below.trans (kk.below h.below.size (fun y e => by
      rcases e with e | e
      · omega
      · have := hVb u hu y e.symm; omega)), kk.cell h.labs (ne _ (by simp; omega)), kk.cell h.mp (ne _ (by simp; omega)), kk.cell h.nbs (ne _ (by simp; omega)), ?_, fun v hv => ?_, fun v hv => ?_, fun v hv => ?_, fun a b ha hb hab k hk => ?_⟩
  · obtain ⟨m, q, hm⟩ := h.map
    exact ⟨m, q, hm.block (kk.block M hm.lt (ne _ (by omega)))⟩
  · show _ = some (if v = u then _ else V v)
    by_cases e : v = u
    · subst e
      rw [if_pos rfl]
      exact World.cell?_setCell_same _ _ _ (ka.cell (h.rows v hv) hbnne)
    · rw [if_neg e, World.cell?_setCell_other _ _ _ _ (by intro e2; injection e2 with _ e2 _; omega)]
      exact ka.cell (h.rows v hv) hbnne
  · rw [World.frozen?_setCell]
    exact (ka.frozenAt (a := ⟨bn, v, none⟩) hs hbnne).trans (h.free v hv)
  · show World.ownsRow _ _ _ _ (if v = u then _ else V v) (if v = u then L u ++ [x] else L v).length (ints (if v = u then L u ++ [x] else L v))
    by_cases e : v = u
    · subst e
      simp only [if_pos, ints_snoc, List.length_append, List.length_cons, List.length_nil]
      exact own_fr2 hown kS (fun b hb e => by injection hb with hb; simp at hb; omega)
    · simp only [if_neg e]
      refine own_fr2 (own_fr2 (h.own v hv) ka (fun b hb e2 => ?_)) kS (fun b hb e2 => ?_)
      · exact h.apart v u hv hu e b hb e2.symm
      · have := hVb v hv b hb; omega
  · have key : ∀ v, v < n → v ≠ u → ∀ b, (V v).ownBlock = some b → ρ1 ≠ b := fun v hv hvu b hb e2 => by
      rcases hat with e3 | e3
      · exact h.apart v u hv hu hvu b hb (by rw [← e2]; exact e3)
      · have := hVb v hv b hb
        simp at e3
        omega
    have hk' : (if a = u then Value.slice (some ⟨ρ1, 0, none⟩) ((L u).length + 1) cap else V a).ownBlock = some k := hk
    show (if b = u then Value.slice (some ⟨ρ1, 0, none⟩) ((L u).length + 1) cap else V b).ownBlock ≠ some k
    by_cases ea : a = u
    · have eb : b ≠ u := fun e => hab (ea.trans e.symm)
      rw [if_pos ea] at hk'
      rw [if_neg eb]
      injection hk' with hk'
      simp at hk'
      intro e4
      exact key b hb eb k e4 hk'
    · rw [if_neg ea] at hk'
      by_cases eb : b = u
      · rw [if_pos eb]
        intro e4
        injection e4 with e4
        simp at e4
        exact key a ha ea k hk' e4
      · rw [if_neg eb]
        exact h.apart a b ha hb hab k hk'
end Go.Proofs.YbulkbmsFmt
