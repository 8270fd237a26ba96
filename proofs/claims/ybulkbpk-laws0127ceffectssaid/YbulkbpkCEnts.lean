import Derived.Test.YbulkbpkCPick
namespace Go.Proofs.Ybulkbpk
open Go.RowKit Go.Maps

/-- The 41 cells of the k-th sumEntry. -/
def entL (k : Nat) (e : Ent) (p : Int) (u g : Bool) : List Value :=
  .int .u64 k :: .int .u64 (e.dv % 2) :: .int .u64 (e.io % 3) :: .int .i64 (e.sz % 2) :: .int .i64 (e.mt % 2) :: .int .i64 0 :: ((sumA e.sm).toList ++ [.int .i64 p, .bool u, .bool g])
theorem entL_length (k : Nat) (e : Ent) (p : Int) (u g : Bool) : (entL k e p u g).length = 41 := rfl
/-- The k-th sumEntry lies at block b, and may be written. -/
structure SE (w : World) (b k : Nat) (e : Ent) (p : Int) (u g : Bool) : Prop where
  at' : w.rangeAt b (k * 41) (entL k e p u g)
  there : w.there b (k * 41) 41
theorem SE.lt {w : World} {b k : Nat} {e : Ent} {p : Int} {u g : Bool} (h : SE w b k e p u g) : b < w.heap.size := by
  obtain ⟨v, hv⟩ := Option.isSome_iff_exists.1 (h.there 0 (by omega)).1
  exact World.block_lt_of_cell? w _ hv
theorem SE.block {w w' : World} {b k : Nat} {e : Ent} {p : Int} {u g : Bool} (h : SE w b k e p u g) (hb : w'.heap[b]? = w.heap[b]?) : SE w' b k e p u g :=
  ⟨fun j v hv => (World.cell?_of_block (w := w) hb).trans (h.at' j v hv), fun j hj => ⟨by rw [World.cell?_of_block (w := w) hb]; exact (h.there j hj).1, by rw [World.frozen?_of_block (w := w) hb]; exact (h.there j hj).2⟩⟩
theorem SE.below {w w' : World} {B b k : Nat} {e : Ent} {p : Int} {u g : Bool} (h : SE w b k e p u g) (hb : Below B w w') (hlt : b < B) : SE w' b k e p u g := h.block (hb.block b hlt)
theorem SE.cell {w : World} {b k : Nat} {e : Ent} {p : Int} {u g : Bool} (h : SE w b k e p u g) (j : Nat) {v : Value} (hv : (entL k e p u g)[j]? = some v) : w.cell? ⟨b, k * 41 + j, none⟩ = some v := h.at' j v hv
theorem SE.free {w : World} {b k : Nat} {e : Ent} {p : Int} {u g : Bool} (h : SE w b k e p u g) (j : Nat) (hj : j < 41) : w.frozen? ⟨b, k * 41 + j, none⟩ = false := (h.there j hj).2
/-- A store into a cell of the k-th entry. -/
theorem SE.set {w : World} {b k : Nat} {e e' : Ent} {p p' : Int} {u u' g g' : Bool} (h : SE w b k e p u g) (j : Nat) (hj : j < 41) (v : Value) (hL : entL k e' p' u' g' = (entL k e p u g).set j v) :
    SE (w.setCell ⟨b, k * 41 + j, none⟩ v) b k e' p' u' g' := by
  obtain ⟨u0, hu0⟩ := Option.isSome_iff_exists.1 (h.there j hj).1
  refine ⟨fun i x hx => ?_, fun i hi => ⟨?_, by simpa using (h.there i hi).2⟩⟩
  · rw [hL] at hx
    by_cases e1 : i = j
    · subst e1
      rw [List.getElem?_set_self (by rw [entL_length]; exact hj)] at hx
      rw [← hx]; exact World.cell?_setCell_same _ _ _ hu0
    · rw [List.getElem?_set_ne (Ne.symm e1)] at hx
      rw [World.cell?_setCell_other _ _ _ _ (by intro e2; injection e2 with _ e3 _; omega)]
      exact h.at' i x hx
  · by_cases e1 : i = j
    · subst e1; rw [World.cell?_setCell_same _ _ _ hu0]; rfl
    · rw [World.cell?_setCell_other _ _ _ _ (by intro e2; injection e2 with _ e3 _; omega)]
      exact (h.there i hi).1
/-- A store into another entry. -/
theorem SE.setOther {w : World} {b k k' : Nat} {e : Ent} {p : Int} {u g : Bool} (h : SE w b k e p u g) (j : Nat) (hj : j < 41) (hne : k' ≠ k) (v : Value) : SE (w.setCell ⟨b, k' * 41 + j, none⟩ v) b k e p u g := by
  have hap : ∀ i, i < 41 → (w.setCell ⟨b, k' * 41 + j, none⟩ v).cell? ⟨b, k * 41 + i, none⟩ = w.cell? ⟨b, k * 41 + i, none⟩ := fun i hi =>
    World.cell?_setCell_other _ _ _ _ (by intro e2; injection e2 with _ e3 _; omega)
  refine ⟨fun i x hx => ?_, fun i hi => ⟨by rw [hap i hi]; exact (h.there i hi).1, by simpa using (h.there i hi).2⟩⟩
  have hi : i < 41 := by rw [← entL_length k e p u g]; exact (List.getElem?_eq_some_iff.1 hx).1
  rw [hap i hi]; exact h.at' i x hx
theorem SE.setFar {w : World} {b k : Nat} {e : Ent} {p : Int} {u g : Bool} (h : SE w b k e p u g) {a : Addr} (ha : b ≠ a.block) (v : Value) : SE (w.setCell a v) b k e p u g :=
  h.block (Below.heap_setCell w a v b ha)
theorem SE.setCellsOther {w : World} {b k k' : Nat} {e : Ent} {p : Int} {u g : Bool} (h : SE w b k e p u g) (hne : k' ≠ k) (cs : List Value) (hcs : cs.length = 41) : SE (w.setCells b (k' * 41) cs) b k e p u g :=
  ⟨World.rangeAt_setCells_apart h.at' b (k' * 41) cs (by rw [entL_length, hcs]; omega), World.there_setCells h.there b _ _⟩
theorem SE.stored {w : World} {b k : Nat} (e : Ent) (p : Int) (u g : Bool) (ht : w.there b (k * 41) 41) : SE (w.setCells b (k * 41) (entL k e p u g)) b k e p u g :=
  ⟨World.rangeAt_setCells_same w b (k * 41) _ ht, World.there_setCells ht b _ _⟩

theorem Yba.info68 : (Yba.prog.info? 68).map (fun i => (i.zero.map (·.cells.size), i.size, i.bytes)) = some (some 41, 41, 96) := by kernel_rfl
end Go.Proofs.Ybulkbpk
