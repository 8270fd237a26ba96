import Derived.Test.YbulkbmsFmtMaps
import Derived.Test.YbulkbmsFmtLabel
import Derived.Test.YbulkbmsFmtIter
import Derived.Test.YbulkbmsFmtEl
import Derived.Deep.AppendLies
import Derived.Deep.RegionLaw
import Derived.Sort.OwnSortedInts
namespace Go.Proofs.YbulkbmsFmt
open Go.RowKit Go.Maps

theorem law9 : Keyed Ybaf.prog 9 := string_keyed Ybaf.underlying9
theorem zero3 (w : World) : (zeroValue 3).run Ybaf.prog w = .ok (.int .i64 0) w := by kernel_rfl
def litS (s : ByteArray) : Lit := .string s.data.toList
theorem litS_inj (a b : ByteArray) (h : litS a = litS b) : a = b := by
  unfold litS at h
  injection h with h
  exact WideShapes.bytes_inj h
theorem keyS {s : ByteArray} (h : s.size ≤ maxLen) : keyOf Ybaf.prog 9 (.string s) = some (litS s) := WideMaps.keyOf_string_mk Ybaf.underlying9 h
theorem lab_size (i : Nat) : (lab i).size ≤ maxLen := by
  have : (lab i).size = 3 := rfl
  rw [this]; unfold maxLen; omega
abbrev MapS (w : World) (B m : Nat) (f : ByteArray → Option Int) (n : Nat) : Prop := MapIs Ybaf.prog 9 3 litS w B m f n

theorem bl_al {w w' : World} (h : Below w.heap.size w w') (o : Obj) : Below w.heap.size w (w'.alloc o) := h.alloc h.size o
theorem bl_dr {w w' : World} (h : Below w.heap.size w w') : Below w.heap.size w w'.drew := h.drew
theorem make_map (n : Nat) (w : World) : (Instr.makeMap 46 (some (.int .i64 (n : Int)))).run Ybaf.prog w = .ok (.map (some w.heap.size)) (w.alloc (.map #[] 0)) := by
  simp [Instr.makeMap, run_underlying Ybaf.underlying46, asInt, asIntOf, newObj]
  rfl

theorem sorted_here (w0 Y : World) (bl cl n Bs : Nat) (hn0 : 0 < n) (hn : n ≤ 256) (hlabs : ∀ j, j < n → w0.cell? ⟨bl, j, none⟩ = some (.string (lab j))) (hB : Below w0.heap.size w0 Y) (hbox : Y.cell? ⟨Bs, 0, none⟩ = some (.slice (some ⟨bl, 0, none⟩) n cl)) :
    Calls Ybaf.prog 13 #[.func (.func 25) #[] #[.pointer (some ⟨Bs, 0, none⟩)]] Y fun e W => ∃ ρ c, e = .returned (.slice (some ⟨ρ, 0, none⟩) n c) ∧ Hid (Y.heap.size ≤ ρ ∧ ρ < W.heap.size ∧ (∀ j, j < n → W.cell? ⟨ρ, j, none⟩ = some (.string (lab j))) ∧ Below Y.heap.size Y W) := by
  have hzl : ((List.range n).map labL).length = n := by simp
  have h1 := sorted_any Bs bl cl ((List.range n).map labL) (by simpa using hn) (by intro e; have := congrArg List.length e; simp at this; omega) (labs_le n hn) Y (World.block_lt_of_cell? Y _ hbox) (by
      have := World.block_lt_of_cell? w0 _ (hlabs 0 hn0)
      have := hB.size
      show bl < _
      simp at *
      omega) (by rw [hzl]; exact hbox) (fun j hj => by
      rw [hzl] at hj
      rw [cell_later hB (hlabs j hj)]
      simp [hj]
      rfl)
  rw [hzl] at h1
  refine h1.mono ?_
  rintro e W ⟨ρ, c, rfl, ho, hb⟩
  have hl := ho.lt ρ rfl
  refine ⟨ρ, c, rfl, hl.1, hl.2, fun j hj => ?_, hb⟩
  have h2 := ho.cells (g := ρ) rfl j (.string (lab j)) (by simp [hj]; rfl)
  rw [addr_add] at h2
  exact h2

/-- graph.New's memory when the labels are sorted. -/
structure N0 (w0 w : World) (g M ρ c n : Nat) (f : ByteArray → Option Int) (k : Nat) : Prop where
  lo : w0.heap.size ≤ g ∧ w0.heap.size ≤ M ∧ w0.heap.size ≤ ρ ∧ g ≠ M ∧ g ≠ ρ ∧ M ≠ ρ
  hi : g < w.heap.size ∧ M < w.heap.size ∧ ρ < w.heap.size
  below : Below w0.heap.size w0 w
  labs : w.cell? ⟨g, 0, none⟩ = some (.slice (some ⟨ρ, 0, none⟩) n c)
  mp : w.cell? ⟨g, 1, none⟩ = some (.map (some M))
  nbs : w.cell? ⟨g, 2, none⟩ = some (.slice none 0 0)
  fz : ∀ j, w.frozen? ⟨g, j, none⟩ = false
  strs : ∀ j, j < n → w.cell? ⟨ρ, j, none⟩ = some (.string (lab j))
  map : ∃ q, MapS w M k f q
theorem n0_new {w0 X : World} {M ρ c n : Nat} (hB : Below w0.heap.size w0 X) (hM : w0.heap.size ≤ M ∧ M < X.heap.size) (hρ : w0.heap.size ≤ ρ ∧ ρ < X.heap.size) (hne : M ≠ ρ) (hs : ∀ j, j < n → X.cell? ⟨ρ, j, none⟩ = some (.string (lab j))) (hm : MapS X M 0 (fun _ => none) 0) :
    N0 w0 (X.alloc (.cells #[.slice (some ⟨ρ, 0, none⟩) n c, .map (some M), .slice none 0 0] 48)) X.heap.size M ρ c n (fun _ => none) 0 := by
  have k := Fr.alloc X (.cells #[.slice (some ⟨ρ, 0, none⟩) n c, .map (some M), .slice none 0 0] 48) (fun _ => False)
  have hb := hB.size
  have hnew := heap_alloc_new X (.cells #[.slice (some ⟨ρ, 0, none⟩) n c, .map (some M), .slice none 0 0] 48)
  refine ⟨by omega, by simp; omega, hB.alloc hB.size _, ?_, ?_, ?_, fun j => ?_, fun j hj => k.cell (hs j hj) (fun e => e), 0, hm.block (k.block M hM.2 (fun e => e))⟩
  · unfold World.cell?; rw [hnew]; rfl
  · unfold World.cell?; rw [hnew]; rfl
  · unfold World.cell?; rw [hnew]; rfl
  · unfold World.frozen?; rw [hnew]; simp
/-- The map is made behind the sort. -/
theorem n0_a {w Y W : World} {ρ c n : Nat} (hY : Below w.heap.size w Y) (h : Y.heap.size ≤ ρ ∧ ρ < W.heap.size ∧ (∀ j, j < n → W.cell? ⟨ρ, j, none⟩ = some (.string (lab j))) ∧ Below Y.heap.size Y W) :
    N0 w ((W.alloc (.map #[] 0)).alloc (.cells #[.slice (some ⟨ρ, 0, none⟩) n c, .map (some W.heap.size), .slice none 0 0] 48)) (W.heap.size + 1) W.heap.size ρ c n (fun _ => none) 0 := by
  have k := Fr.alloc W (.map #[] 0) (fun _ => False)
  have h1 := hY.size
  have h2 := h.2.2.2.size
  have hB : Below w.heap.size w W := hY.trans (h.2.2.2.mono h1)
  have := n0_new (w0 := w) (X := W.alloc (.map #[] 0)) (M := W.heap.size) (ρ := ρ) (c := c) (n := n) (hB.alloc hB.size _) (by simp; omega) (by simp; omega) (by omega) (fun j hj => k.cell (h.2.2.1 j hj) (fun e => e)) (MapIs.made W (fun _ => none) (fun _ => rfl))
  simpa using this
/-- .. ahead of it. -/
theorem n0_b {w Y W : World} {M ρ c n : Nat} (hY : Below w.heap.size w Y) (hM : w.heap.size ≤ M ∧ M < Y.heap.size) (hm : MapS Y M 0 (fun _ => none) 0) (h : Y.heap.size ≤ ρ ∧ ρ < W.heap.size ∧ (∀ j, j < n → W.cell? ⟨ρ, j, none⟩ = some (.string (lab j))) ∧ Below Y.heap.size Y W) :
    N0 w (W.alloc (.cells #[.slice (some ⟨ρ, 0, none⟩) n c, .map (some M), .slice none 0 0] 48)) W.heap.size M ρ c n (fun _ => none) 0 := by
  have h1 := hY.size
  have h2 := h.2.2.2.size
  exact n0_new (hY.trans (h.2.2.2.mono h1)) (by omega) (by omega) (by omega) h.2.2.1 (hm.below h.2.2.2 hM.2)
theorem N0.drewN {w0 w : World} {g M ρ c n : Nat} {f : ByteArray → Option Int} {k : Nat} (h : N0 w0 w g M ρ c n f k) (q : Nat) : N0 w0 (w.drewN q) g M ρ c n f k :=
  ⟨h.lo, h.hi, below_drewN h.below q, h.labs, h.mp, h.nbs, h.fz, h.strs, by obtain ⟨m, hm⟩ := h.map; exact ⟨m, hm.block rfl⟩⟩
theorem N0.turn {w0 w w' : World} {g M ρ c n : Nat} {f f' : ByteArray → Option Int} {k k' q' : Nat} (h : N0 w0 w g M ρ c n f k) (hw : Wrote M w w') (hm : MapS w' M k' f' q') : N0 w0 w' g M ρ c n f' k' := by
  have hlo := h.lo
  have hhi := h.hi
  refine ⟨h.lo, by rw [hw.size]; exact h.hi, h.below.trans (hw.below _ hlo.2.1), (hw.cell (by simp; omega)).trans h.labs, (hw.cell (by simp; omega)).trans h.mp, (hw.cell (by simp; omega)).trans h.nbs, fun j => (hw.frozen (by simp; omega)).trans (h.fz j), fun j hj => (hw.cell (by simp; omega)).trans (h.strs j hj), q', hm⟩
end Go.Proofs.YbulkbmsFmt
