import Derived.Test.YbulkbmsFmtComponent
import Derived.Deep.RegionHeld3
import Derived.Deep.OwnRows
import Derived.Lib.SliceRun
import Derived.Laws.IdiomCopy
namespace Go.Proofs.YbulkbmsFmt
open Go.RowKit

/-- A row of n numbers in block B, which may be written. -/
structure Nums (w : World) (B n : Nat) (f : Nat → Int) : Prop where
  cell : ∀ v, v < n → w.cell? ⟨B, v, none⟩ = some (.int .i64 (f v))
  free : ∀ v, v < n → w.frozen? ⟨B, v, none⟩ = false
theorem Nums.block {w w' : World} {B n : Nat} {f : Nat → Int} (h : Nums w B n f) (hb : w'.heap[B]? = w.heap[B]?) : Nums w' B n f :=
  ⟨fun v hv => (World.cell?_of_block (w := w) hb).trans (h.cell v hv), fun v hv => (World.frozen?_of_block (w := w) hb).trans (h.free v hv)⟩
theorem Nums.lt {w : World} {B n : Nat} {f : Nat → Int} (h : Nums w B n f) (hn : 0 < n) : B < w.heap.size := World.block_lt_of_cell? w _ (h.cell 0 hn)
theorem Nums.fr {w w' : World} {B n : Nat} {f : Nat → Int} {ex : Nat → Prop} (h : Nums w B n f) (k : Fr w w' ex) (hn : ¬ ex B) : Nums w' B n f := by
  by_cases h0 : 0 < n
  · exact h.block (k.block B (h.lt h0) hn)
  · exact ⟨fun v hv => by omega, fun v hv => by omega⟩
theorem Nums.set {w : World} {B n : Nat} {f : Nat → Int} (h : Nums w B n f) {u : Nat} (hu : u < n) (z : Int) : Nums (w.setCell ⟨B, u, none⟩ (.int .i64 z)) B n (fun v => if v = u then z else f v) := by
  refine ⟨fun v hv => ?_, fun v hv => by simpa using h.free v hv⟩
  by_cases e : v = u
  · subst e
    rw [if_pos rfl]
    exact World.cell?_setCell_same _ _ _ (h.cell v hv)
  · rw [if_neg e, World.cell?_setCell_other _ _ _ _ (by intro e2; injection e2 with _ e3 _; exact e e3.symm)]
    exact h.cell v hv
theorem Nums.congr {w : World} {B n : Nat} {f g : Nat → Int} (h : Nums w B n f) (e : ∀ v, v < n → f v = g v) : Nums w B n g := ⟨fun v hv => by rw [← e v hv]; exact h.cell v hv, h.free⟩
theorem nums_made (w : World) (n : Nat) : Nums (w.alloc (.cells (madeCells #[.int .i64 0] n) 3)) w.heap.size n (fun _ => 0) :=
  have h := World.rowIs_made w (.int .i64 0) n 3
  ⟨fun _ hi => h.cell hi, fun i _ => h.frozen i⟩
theorem bools_made (w : World) (n : Nat) : Bools (w.alloc (.cells (madeCells #[.bool false] n) 4)) w.heap.size n (fun _ => false) :=
  have h := World.rowIs_made w (.bool false) n 4
  ⟨fun _ hi => h.cell hi, fun i _ => h.frozen i⟩
theorem bools_setCells (w : World) (B n : Nat) (f g : Nat → Bool) (h : Bools w B n f) : Bools (w.setCells B 0 ((List.range n).map fun v => .bool (g v))) B n g := by
  refine ⟨fun v hv => ?_, fun v hv => by rw [World.frozen?_setCells]; exact h.free v hv⟩
  have := World.cell?_setCells_in B ((List.range n).map fun v => Value.bool (g v)) 0 w (fun j hj => by simp at hj; rw [Nat.zero_add, h.cell j hj]; rfl) v (by simpa using hv)
  simpa using this
theorem nums_cleared (w : World) (B n m : Nat) (f : Nat → Int) (h : Nums w B n f) (hm : m ≤ n) : Nums (w.setCells B 0 (List.replicate m (.int .i64 0))) B n (fun v => if v < m then 0 else f v) := by
  refine ⟨fun v hv => ?_, fun v hv => by rw [World.frozen?_setCells]; exact h.free v hv⟩
  by_cases e : v < m
  · have := World.cell?_setCells_in B (List.replicate m (Value.int .i64 0)) 0 w (fun j hj => by simp at hj; rw [Nat.zero_add, h.cell j (by omega)]; rfl) v (by simpa using e)
    simpa [e] using this
  · rw [World.cell?_setCells_out B _ 0 w ⟨B, v, none⟩ (fun _ _ => Or.inr (by simp; omega)), h.cell v hv]
    simp [e]
theorem Fr.setCells (B : Nat) : ∀ (vs : List Value) (o : Nat) (w : World), Fr w (w.setCells B o vs) (fun b => b = B)
  | [], _, w => Fr.refl w _
  | v :: r, o, w => (Fr.setCell w ⟨B, o, none⟩ v (fun b => b = B) rfl).trans (Fr.setCells B r (o + 1) _) (fun _ _ e => e)

/-- A slice of numbers of the call's own that is not nil. -/
structure OwnZ (w : World) (base ρ c : Nat) (L : List Int) : Prop where
  own : w.ownsRow base 3 1 (.slice (some ⟨ρ, 0, none⟩) L.length c) L.length (L.map (Value.int .i64))
theorem ownsRow_fr {w w' : World} {base ρ c n : Nat} {xs : List Value} {ex : Nat → Prop} (h : w.ownsRow base 3 1 (.slice (some ⟨ρ, 0, none⟩) n c) n xs) (k : Fr w w' ex) (hn : ¬ ex ρ) : w'.ownsRow base 3 1 (.slice (some ⟨ρ, 0, none⟩) n c) n xs := by
  refine ⟨h.1, ?_⟩
  rcases h.2 with ⟨e, h0⟩ | ⟨g, cap, cur, e, hb, hg, r⟩
  · exact .inl ⟨e, h0⟩
  · have : g = ρ := by injection e with e1 _ _; injection e1 with e1; injection e1 with e1 _ _; exact e1.symm
    subst this
    exact .inr ⟨g, cap, cur, e, hb, (k.block g (Array.getElem?_eq_some_iff.1 hg).1 hn).trans hg, r⟩
theorem ownsRow_none {w : World} {base ρ c n : Nat} {xs : List Value} (h : w.ownsRow base 3 1 (.slice (some ⟨ρ, 0, none⟩) n c) n xs) : w.ownsRow base 3 1 (.slice (some ⟨ρ, 0, none⟩) 0 c) 0 [] := by
  refine ⟨by simp, ?_⟩
  rcases h.2 with ⟨e, h0⟩ | ⟨g, cap, cur, e, hb, hg, r1, r2, r3, r4⟩
  · cases e
  · injection e with e1 _ e3
    injection e1 with e1
    injection e1 with e1 _ _
    subst e1; subst e3
    exact .inr ⟨ρ, c, cur, rfl, hb, hg, by omega, r2, r3, by simp⟩
theorem OwnZ.cell {w : World} {base ρ c : Nat} {L : List Int} (h : OwnZ w base ρ c L) {j : Nat} {u : Int} (hj : L[j]? = some u) : w.cell? ⟨ρ, j, none⟩ = some (.int .i64 u) := by
  have := h.own.cells (g := ρ) rfl j (.int .i64 u) (by simp [hj])
  have hadd : (⟨ρ, 0, none⟩ : Addr).add j = ⟨ρ, j, none⟩ := by unfold Addr.add; split <;> simp_all
  rw [hadd] at this
  exact this
theorem ownZ_of {w : World} {base : Nat} {v : Value} {L : List Int} (h : w.ownsRow base 3 1 v L.length (L.map (Value.int .i64))) (hne : v ≠ .slice none 0 0) : ∃ ρ c, v = .slice (some ⟨ρ, 0, none⟩) L.length c ∧ OwnZ w base ρ c L := by
  rcases h.2 with ⟨e, _⟩ | ⟨g, cap, cur, e, _⟩
  · exact absurd e hne
  · subst e; exact ⟨g, cap, rfl, ⟨h⟩⟩
theorem ownZ_next {w w1 : World} {base : Nat} {v v1 : Value} {L : List Int} {u : Int} (h : w1.ownsRow base 3 1 v1 (L.length + 1) (L.map (Value.int .i64) ++ [.int .i64 u])) (hn : v1 = .slice none 0 0 ↔ v = .slice none 0 0 ∧ 1 = 0) (hat : v1.ownBlock = v.ownBlock ∨ v1.ownBlock = some w.heap.size) :
    ∃ ρ c M, v1 = .slice (some ⟨ρ, 0, none⟩) M c ∧ Hid (M = (L ++ [u]).length) ∧ OwnZ w1 base ρ c (L ++ [u]) ∧ (some ρ = v.ownBlock ∨ ρ = w.heap.size) := by
  have h' : w1.ownsRow base 3 1 v1 (L ++ [u]).length ((L ++ [u]).map (Value.int .i64)) := by simpa using h
  have hne : v1 ≠ .slice none 0 0 := fun e => by have := (hn.1 e).2; omega
  obtain ⟨ρ, c, rfl, ho⟩ := ownZ_of h' hne
  refine ⟨ρ, c, _, rfl, rfl, ho, ?_⟩
  rcases hat with e | e
  · exact Or.inl e
  · right
    simp only [Value.ownBlock, Option.some.injEq] at e
    exact e

/-- lightest's own memory. -/
structure Lt (w0 w : World) (b n : Nat) (mn : Nat → Int) (inK seen : Nat → Bool) (of : Nat → Nat) (cnt : Nat → Int) (ρs cs : Nat) (S : List Int) (ρr cr : Nat) (R : List Nat) : Prop where
  at' : w0.heap.size = b
  below : Below b w0 w
  size : b + 6 < w.heap.size
  least : Nums w b n mn
  inC : Bools w (b + 1) n inK
  seenC : Bools w (b + 2) n seen
  ofC : Nums w (b + 3) n (fun v => (of v : Int))
  cntC : Nums w (b + 5) n cnt
  sums : OwnZ w b ρs cs S
  reached : Own w b ρr cr R
  neS : ρs ≠ b ∧ ρs ≠ b + 1 ∧ ρs ≠ b + 2 ∧ ρs ≠ b + 3 ∧ ρs ≠ b + 5
  neR : ρr ≠ b ∧ ρr ≠ b + 1 ∧ ρr ≠ b + 2 ∧ ρr ≠ b + 3 ∧ ρr ≠ b + 5
  ne : ρs ≠ ρr

section
variable {w0 w : World} {b n : Nat} {mn : Nat → Int} {inK seen : Nat → Bool} {of : Nat → Nat} {cnt : Nat → Int} {ρs cs : Nat} {S : List Int} {ρr cr : Nat} {R : List Nat}
theorem Lt.lows (h : Lt w0 w b n mn inK seen of cnt ρs cs S ρr cr R) : b ≤ ρs ∧ b ≤ ρr ∧ ρs < w.heap.size ∧ ρr < w.heap.size :=
  ⟨(h.sums.own.lt ρs rfl).1, (h.reached.own.lt ρr rfl).1, (h.sums.own.lt ρs rfl).2, (h.reached.own.lt ρr rfl).2⟩
theorem Lt.turnLeast (h : Lt w0 w b n mn inK seen of cnt ρs cs S ρr cr R) {w' : World} (k : Fr w w' (fun x => x = b)) (f : Nat → Int) (hf : Nums w' (b) n f) : Lt w0 w' b n f inK seen of cnt ρs cs S ρr cr R :=
  ⟨h.at', h.below.trans (k.below (by have := h.size; omega) (fun x e => by have := h.lows; omega)), by have := k.size; have := h.size; omega, hf, h.inC.fr k (by have := h.neS; have := h.neR; omega), h.seenC.fr k (by have := h.neS; have := h.neR; omega), h.ofC.fr k (by have := h.neS; have := h.neR; omega), h.cntC.fr k (by have := h.neS; have := h.neR; omega), ⟨ownsRow_fr h.sums.own k (by have := h.neS; have := h.neR; have := h.ne; omega)⟩, ⟨ownsRow_fr h.reached.own k (by have := h.neS; have := h.neR; have := h.ne; omega)⟩, h.neS, h.neR, h.ne⟩
theorem Lt.turnIn (h : Lt w0 w b n mn inK seen of cnt ρs cs S ρr cr R) {w' : World} (k : Fr w w' (fun x => x = b + 1)) (f : Nat → Bool) (hf : Bools w' (b + 1) n f) : Lt w0 w' b n mn f seen of cnt ρs cs S ρr cr R :=
  ⟨h.at', h.below.trans (k.below (by have := h.size; omega) (fun x e => by have := h.lows; omega)), by have := k.size; have := h.size; omega, h.least.fr k (by have := h.neS; have := h.neR; omega), hf, h.seenC.fr k (by have := h.neS; have := h.neR; omega), h.ofC.fr k (by have := h.neS; have := h.neR; omega), h.cntC.fr k (by have := h.neS; have := h.neR; omega), ⟨ownsRow_fr h.sums.own k (by have := h.neS; have := h.neR; have := h.ne; omega)⟩, ⟨ownsRow_fr h.reached.own k (by have := h.neS; have := h.neR; have := h.ne; omega)⟩, h.neS, h.neR, h.ne⟩
theorem Lt.turnSeen (h : Lt w0 w b n mn inK seen of cnt ρs cs S ρr cr R) {w' : World} (k : Fr w w' (fun x => x = b + 2)) (f : Nat → Bool) (hf : Bools w' (b + 2) n f) : Lt w0 w' b n mn inK f of cnt ρs cs S ρr cr R :=
  ⟨h.at', h.below.trans (k.below (by have := h.size; omega) (fun x e => by have := h.lows; omega)), by have := k.size; have := h.size; omega, h.least.fr k (by have := h.neS; have := h.neR; omega), h.inC.fr k (by have := h.neS; have := h.neR; omega), hf, h.ofC.fr k (by have := h.neS; have := h.neR; omega), h.cntC.fr k (by have := h.neS; have := h.neR; omega), ⟨ownsRow_fr h.sums.own k (by have := h.neS; have := h.neR; have := h.ne; omega)⟩, ⟨ownsRow_fr h.reached.own k (by have := h.neS; have := h.neR; have := h.ne; omega)⟩, h.neS, h.neR, h.ne⟩
theorem Lt.turnCnt (h : Lt w0 w b n mn inK seen of cnt ρs cs S ρr cr R) {w' : World} (k : Fr w w' (fun x => x = b + 5)) (f : Nat → Int) (hf : Nums w' (b + 5) n f) : Lt w0 w' b n mn inK seen of f ρs cs S ρr cr R :=
  ⟨h.at', h.below.trans (k.below (by have := h.size; omega) (fun x e => by have := h.lows; omega)), by have := k.size; have := h.size; omega, h.least.fr k (by have := h.neS; have := h.neR; omega), h.inC.fr k (by have := h.neS; have := h.neR; omega), h.seenC.fr k (by have := h.neS; have := h.neR; omega), h.ofC.fr k (by have := h.neS; have := h.neR; omega), hf, ⟨ownsRow_fr h.sums.own k (by have := h.neS; have := h.neR; have := h.ne; omega)⟩, ⟨ownsRow_fr h.reached.own k (by have := h.neS; have := h.neR; have := h.ne; omega)⟩, h.neS, h.neR, h.ne⟩
theorem Lt.turnOf (h : Lt w0 w b n mn inK seen of cnt ρs cs S ρr cr R) {w' : World} (k : Fr w w' (fun x => x = b + 3)) (f : Nat → Nat) (hf : Nums w' (b + 3) n (fun v => (f v : Int))) : Lt w0 w' b n mn inK seen f cnt ρs cs S ρr cr R :=
  ⟨h.at', h.below.trans (k.below (by have := h.size; omega) (fun x e => by have := h.lows; omega)), by have := k.size; have := h.size; omega, h.least.fr k (by have := h.neS; have := h.neR; omega), h.inC.fr k (by have := h.neS; have := h.neR; omega), h.seenC.fr k (by have := h.neS; have := h.neR; omega), hf, h.cntC.fr k (by have := h.neS; have := h.neR; omega), ⟨ownsRow_fr h.sums.own k (by have := h.neS; have := h.neR; have := h.ne; omega)⟩, ⟨ownsRow_fr h.reached.own k (by have := h.neS; have := h.neR; have := h.ne; omega)⟩, h.neS, h.neR, h.ne⟩
theorem Lt.putLeast (h : Lt w0 w b n mn inK seen of cnt ρs cs S ρr cr R) {x : Nat} (hx : x < n) (z : Int) : Lt w0 (w.setCell ⟨b, x, none⟩ (.int .i64 z)) b n (fun v => if v = x then z else mn v) inK seen of cnt ρs cs S ρr cr R :=
  h.turnLeast (Fr.setCell w _ _ _ rfl) _ (h.least.set hx z)
theorem Lt.putIn (h : Lt w0 w b n mn inK seen of cnt ρs cs S ρr cr R) {x : Nat} (hx : x < n) (z : Bool) : Lt w0 (w.setCell ⟨b + 1, x, none⟩ (.bool z)) b n mn (fun v => if v = x then z else inK v) seen of cnt ρs cs S ρr cr R :=
  h.turnIn (Fr.setCell w _ _ _ rfl) _ (h.inC.set hx z)
theorem Lt.putCnt (h : Lt w0 w b n mn inK seen of cnt ρs cs S ρr cr R) {x : Nat} (hx : x < n) (z : Int) : Lt w0 (w.setCell ⟨b + 5, x, none⟩ (.int .i64 z)) b n mn inK seen of (fun v => if v = x then z else cnt v) ρs cs S ρr cr R :=
  h.turnCnt (Fr.setCell w _ _ _ rfl) _ (h.cntC.set hx z)
theorem Lt.putOf (h : Lt w0 w b n mn inK seen of cnt ρs cs S ρr cr R) {x : Nat} (hx : x < n) (z : Nat) : Lt w0 (w.setCell ⟨b + 3, x, none⟩ (.int .i64 (z : Int))) b n mn inK seen (fun v => if v = x then z else of v) cnt ρs cs S ρr cr R :=
  h.turnOf (Fr.setCell w _ _ _ rfl) _ ((h.ofC.set hx z).congr (fun v _ => by split <;> rfl))
theorem Lt.drewN (h : Lt w0 w b n mn inK seen of cnt ρs cs S ρr cr R) (k : Nat) : Lt w0 (w.drewN k) b n mn inK seen of cnt ρs cs S ρr cr R :=
  ⟨h.at', ⟨h.below.os, h.below.tape, h.below.output, h.below.size, h.below.block⟩, h.size, h.least.block rfl, h.inC.block rfl, h.seenC.block rfl, h.ofC.block rfl, h.cntC.block rfl, ⟨h.sums.own⟩, ⟨h.reached.own⟩, h.neS, h.neR, h.ne⟩
/-- Behind Component. -/
theorem Lt.comped (h : Lt w0 w b n mn inK seen of cnt ρs cs S ρr cr R) {w' : World} {ρ c : Nat} {f : Nat → Bool} {L : List Nat} (k : Fr w w' (fun x => x = b + 2 ∨ some x = some ρr)) (hf : Bools w' (b + 2) n f) (ho : Own w' b ρ c L) (hat : some ρ = some ρr ∨ w.heap.size ≤ ρ) : Lt w0 w' b n mn inK f of cnt ρs cs S ρ c L := by
  have hl := h.lows
  have hs := h.size
  have h1 := h.neS
  have h2 := h.neR
  have h3 := h.ne
  have kk : Fr w w' (fun x => x = b + 2 ∨ x = ρr) := k.mono (fun x _ e => by rcases e with e | e; exact Or.inl e; injection e with e; exact Or.inr e)
  have hat' : ρ = ρr ∨ w.heap.size ≤ ρ := by rcases hat with e | e; injection e with e; exact Or.inl e; exact Or.inr e
  exact ⟨h.at', h.below.trans (kk.below (by have := h.size; omega) (fun x e => by omega)), by have := k.size; omega, h.least.fr kk (by omega), h.inC.fr kk (by omega), hf, h.ofC.fr kk (by omega), h.cntC.fr kk (by omega), ⟨ownsRow_fr h.sums.own kk (by omega)⟩, ho, h.neS, by omega, by omega⟩
/-- Behind the append to sums. -/
theorem Lt.pushed (h : Lt w0 w b n mn inK seen of cnt ρs cs S ρr cr R) {w' : World} {ρ c : Nat} {o : Obj} {S' : List Int} (hg : (w.alloc o).grownBy w' (some ρs)) (ho : OwnZ w' b ρ c S') (hat : some ρ = some ρs ∨ ρ = (w.alloc o).heap.size) : Lt w0 w' b n mn inK seen of cnt ρ c S' ρr cr R := by
  have hl := h.lows
  have hs := h.size
  have h1 := h.neS
  have h2 := h.neR
  have h3 := h.ne
  have kk : Fr w w' (fun x => x = ρs) := (Fr.alloc w o (fun x => x = ρs)).trans (Fr.grown hg (fun x => x = ρs) (fun x e => by injection e with e; exact e.symm)) (fun _ _ e => e)
  have hat' : ρ = ρs ∨ w.heap.size ≤ ρ := by
    rcases hat with e | e
    · injection e with e; exact Or.inl e
    · right; rw [e]; simp
  exact ⟨h.at', h.below.trans (kk.below (by have := h.size; omega) (fun x e => by omega)), by have := kk.size; omega, h.least.fr kk (by omega), h.inC.fr kk (by omega), h.seenC.fr kk (by omega), h.ofC.fr kk (by omega), h.cntC.fr kk (by omega), ho, ⟨ownsRow_fr h.reached.own kk (by omega)⟩, by omega, h.neR, by omega⟩
/-- sums[:0]. -/
theorem Lt.noSums (h : Lt w0 w b n mn inK seen of cnt ρs cs S ρr cr R) : Lt w0 w b n mn inK seen of cnt ρs cs [] ρr cr R :=
  ⟨h.at', h.below, h.size, h.least, h.inC, h.seenC, h.ofC, h.cntC, ⟨ownsRow_none h.sums.own⟩, h.reached, h.neS, h.neR, h.ne⟩
end
end Go.Proofs.YbulkbmsFmt
