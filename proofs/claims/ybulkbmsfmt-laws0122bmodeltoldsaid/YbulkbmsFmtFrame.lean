import Derived.Test.YbulkbmsFmtSmall
import Derived.Test.YbulkbmsFmtComps
import Derived.Test.YbulkbmsFmtMcs
import Derived.Test.YbulkbmsFmtBuilt
import Derived.Laws.AppendOwn
namespace Go.Proofs.YbulkbmsFmt
open Go.RowKit

/-- Every block but the excepted ones is as it was. -/
structure Fr (w w' : World) (ex : Nat → Prop) : Prop where
  os : w'.os = w.os
  tape : w'.tape = w.tape
  output : w'.output = w.output
  size : w.heap.size ≤ w'.heap.size
  block : ∀ b, b < w.heap.size → ¬ ex b → w'.heap[b]? = w.heap[b]?
theorem Fr.refl (w : World) (ex : Nat → Prop) : Fr w w ex := ⟨rfl, rfl, rfl, Nat.le_refl _, fun _ _ _ => rfl⟩
theorem Fr.trans {w x y : World} {ex ex' : Nat → Prop} (h : Fr w x ex) (k : Fr x y ex') (hx : ∀ b, b < w.heap.size → ex' b → ex b) : Fr w y ex :=
  ⟨k.os.trans h.os, k.tape.trans h.tape, k.output.trans h.output, Nat.le_trans h.size k.size, fun b hb hn => (k.block b (Nat.lt_of_lt_of_le hb h.size) (fun e => hn (hx b hb e))).trans (h.block b hb hn)⟩
theorem Fr.mono {w x : World} {ex ex' : Nat → Prop} (h : Fr w x ex) (hx : ∀ b, b < w.heap.size → ex b → ex' b) : Fr w x ex' :=
  ⟨h.os, h.tape, h.output, h.size, fun b hb hn => h.block b hb (fun e => hn (hx b hb e))⟩
theorem Fr.alloc (w : World) (o : Obj) (ex : Nat → Prop) : Fr w (w.alloc o) ex := ⟨rfl, rfl, rfl, by simp, fun b hb _ => (World.grownBy_alloc w o none).block b hb (by simp)⟩
theorem Fr.drewN (w : World) (k : Nat) (ex : Nat → Prop) : Fr w (w.drewN k) ex := ⟨rfl, rfl, rfl, Nat.le_refl _, fun _ _ _ => rfl⟩
theorem Fr.setCell (w : World) (a : Addr) (v : Value) (ex : Nat → Prop) (h : ex a.block) : Fr w (w.setCell a v) ex :=
  have hb := (Below.refl 0 w).setCell (p := a) (Nat.zero_le _) v
  ⟨hb.os, hb.tape, hb.output, hb.size, fun b _ hn => Below.heap_setCell w a v b (fun e => hn (e ▸ h))⟩
theorem Fr.grown {w w' : World} {row : Option Nat} (h : w.grownBy w' row) (ex : Nat → Prop) (hx : ∀ b, row = some b → ex b) : Fr w w' ex :=
  ⟨h.os, h.tape, h.output, h.size, fun b hb hn => h.block b hb (fun e => hn (hx b e.symm))⟩
theorem Fr.below {w w' : World} {ex : Nat → Prop} (h : Fr w w' ex) {B : Nat} (hB : B ≤ w.heap.size) (hx : ∀ b, ex b → B ≤ b) : Below B w w' :=
  ⟨h.os, h.tape, h.output, h.size, fun b hb => h.block b (by omega) (fun e => by have := hx b e; omega)⟩
theorem Fr.cell {w w' : World} {ex : Nat → Prop} (h : Fr w w' ex) {a : Addr} {v : Value} (hc : w.cell? a = some v) (hn : ¬ ex a.block) : w'.cell? a = some v :=
  (World.cell?_of_block (h.block a.block (World.block_lt_of_cell? w _ hc) hn)).trans hc

/-- A row of n bools in block S, which may be written. -/
structure Bools (w : World) (S n : Nat) (f : Nat → Bool) : Prop where
  cell : ∀ v, v < n → w.cell? ⟨S, v, none⟩ = some (.bool (f v))
  free : ∀ v, v < n → w.frozen? ⟨S, v, none⟩ = false
theorem Bools.block {w w' : World} {S n : Nat} {f : Nat → Bool} (h : Bools w S n f) (hb : w'.heap[S]? = w.heap[S]?) : Bools w' S n f :=
  ⟨fun v hv => (World.cell?_of_block (w := w) hb).trans (h.cell v hv), fun v hv => (World.frozen?_of_block (w := w) hb).trans (h.free v hv)⟩
theorem Bools.lt {w : World} {S n : Nat} {f : Nat → Bool} (h : Bools w S n f) (hn : 0 < n) : S < w.heap.size := World.block_lt_of_cell? w _ (h.cell 0 hn)
theorem Bools.fr {w w' : World} {S n : Nat} {f : Nat → Bool} {ex : Nat → Prop} (h : Bools w S n f) (k : Fr w w' ex) (hn : ¬ ex S) : Bools w' S n f := by
  by_cases h0 : 0 < n
  · exact h.block (k.block S (h.lt h0) hn)
  · exact ⟨fun v hv => by omega, fun v hv => by omega⟩
theorem Bools.set {w : World} {S n : Nat} {f : Nat → Bool} (h : Bools w S n f) {u : Nat} (hu : u < n) (b : Bool) : Bools (w.setCell ⟨S, u, none⟩ (.bool b)) S n (fun v => if v = u then b else f v) := by
  refine ⟨fun v hv => ?_, fun v hv => by simpa using h.free v hv⟩
  by_cases e : v = u
  · subst e
    rw [if_pos rfl]
    exact World.cell?_setCell_same _ _ _ (h.cell v hv)
  · rw [if_neg e, World.cell?_setCell_other _ _ _ _ (by intro e2; injection e2 with _ e3 _; exact e e3.symm)]
    exact h.cell v hv
theorem Bools.congr {w : World} {S n : Nat} {f g : Nat → Bool} (h : Bools w S n f) (e : ∀ v, v < n → f v = g v) : Bools w S n g := ⟨fun v hv => by rw [← e v hv]; exact h.cell v hv, h.free⟩
theorem GraphAt.fr {w w' : World} {g n : Nat} {nb : Nat → List Nat} {ex : Nat → Prop} (B : Nat) (hB : ∃ w0 : World, GraphAt w0 g n nb ∧ w0.heap.size = B ∧ Below B w0 w) (k : Fr w w' ex) (hx : ∀ b, ex b → B ≤ b) : ∃ w0 : World, GraphAt w0 g n nb ∧ w0.heap.size = B ∧ Below B w0 w' := by
  obtain ⟨w0, h1, h2, h3⟩ := hB
  exact ⟨w0, h1, h2, h3.trans (k.below (by have := h3.size; omega) hx)⟩
end Go.Proofs.YbulkbmsFmt
