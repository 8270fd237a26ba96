import Derived.Test.YbulkbmsFmtLightP
namespace Go.Proofs.YbulkbmsFmt
open Go.RowKit

/-- The law's own memory while it runs its model. -/
structure Md (w0 w : World) (b n : Nat) (mn : Nat → Int) (inK vis : Nat → Bool) (ρ c : Nat) (Q : List Nat) : Prop where
  at' : w0.heap.size = b
  below : Below b w0 w
  size : b + 3 < w.heap.size
  want : Nums w b n mn
  inC : Bools w (b + 1) n inK
  visC : Bools w (b + 2) n vis
  queue : Own w b ρ c Q
  ne : ρ ≠ b ∧ ρ ≠ b + 1 ∧ ρ ≠ b + 2
section
variable {w0 w : World} {b n : Nat} {mn : Nat → Int} {inK vis : Nat → Bool} {ρ c : Nat} {Q : List Nat}
theorem Md.far (h : Md w0 w b n mn inK vis ρ c Q) {a : Addr} {v : Value} (hc : w0.cell? a = some v) : w.cell? a = some v :=
  cell_later (by rw [h.at']; exact h.below) hc
theorem Md.cong (h : Md w0 w b n mn inK vis ρ c Q) {mn' : Nat → Int} {inK' vis' : Nat → Bool} (h1 : ∀ v, v < n → mn v = mn' v) (h2 : ∀ v, v < n → inK v = inK' v) (h3 : ∀ v, v < n → vis v = vis' v) : Md w0 w b n mn' inK' vis' ρ c Q :=
  ⟨h.at', h.below, h.size, h.want.congr h1, h.inC.congr h2, h.visC.congr h3, h.queue, h.ne⟩
theorem Md.drewN (h : Md w0 w b n mn inK vis ρ c Q) (k : Nat) : Md w0 (w.drewN k) b n mn inK vis ρ c Q :=
  ⟨h.at', ⟨h.below.os, h.below.tape, h.below.output, h.below.size, h.below.block⟩, h.size, h.want.block rfl, h.inC.block rfl, h.visC.block rfl, ⟨h.queue.own⟩, h.ne⟩
theorem Md.putWant (h : Md w0 w b n mn inK vis ρ c Q) {x : Nat} (hx : x < n) (z : Int) : Md w0 (w.setCell ⟨b, x, none⟩ (.int .i64 z)) b n (fun v => if v = x then z else mn v) inK vis ρ c Q :=
  have k := Fr.setCell w ⟨b, x, none⟩ (.int .i64 z) (fun y => y = b) rfl
  ⟨h.at', h.below.trans (k.below (by have := h.size; omega) (fun x e => by omega)), by have := k.size; have := h.size; omega, h.want.set hx z, h.inC.fr k (by omega), h.visC.fr k (by omega), ⟨ownsRow_fr h.queue.own k (by have := h.ne; omega)⟩, h.ne⟩
theorem Md.putIn (h : Md w0 w b n mn inK vis ρ c Q) {x : Nat} (hx : x < n) (z : Bool) : Md w0 (w.setCell ⟨b + 1, x, none⟩ (.bool z)) b n mn (fun v => if v = x then z else inK v) vis ρ c Q :=
  have k := Fr.setCell w ⟨b + 1, x, none⟩ (.bool z) (fun y => y = b + 1) rfl
  ⟨h.at', h.below.trans (k.below (by have := h.size; omega) (fun x e => by omega)), by have := k.size; have := h.size; omega, h.want.fr k (by omega), h.inC.set hx z, h.visC.fr k (by omega), ⟨ownsRow_fr h.queue.own k (by have := h.ne; omega)⟩, h.ne⟩
theorem Md.putVis (h : Md w0 w b n mn inK vis ρ c Q) {x : Nat} (hx : x < n) (z : Bool) : Md w0 (w.setCell ⟨b + 2, x, none⟩ (.bool z)) b n mn inK (fun v => if v = x then z else vis v) ρ c Q :=
  have k := Fr.setCell w ⟨b + 2, x, none⟩ (.bool z) (fun y => y = b + 2) rfl
  ⟨h.at', h.below.trans (k.below (by have := h.size; omega) (fun x e => by omega)), by have := k.size; have := h.size; omega, h.want.fr k (by omega), h.inC.fr k (by omega), h.visC.set hx z, ⟨ownsRow_fr h.queue.own k (by have := h.ne; omega)⟩, h.ne⟩
/-- Behind an append to the queue. -/
theorem Md.pushed (h : Md w0 w b n mn inK vis ρ c Q) {w' : World} {ρ' c' : Nat} {o : Obj} {Q' : List Nat} (hg : (w.alloc o).grownBy w' (some ρ)) (ho : Own w' b ρ' c' Q') (hat : some ρ' = some ρ ∨ ρ' = (w.alloc o).heap.size) : Md w0 w' b n mn inK vis ρ' c' Q' := by
  have hs := h.size
  have h1 := h.ne
  have hl := h.queue.own.lt ρ rfl
  have kk : Fr w w' (fun x => x = ρ) := (Fr.alloc w o (fun x => x = ρ)).trans (Fr.grown hg (fun x => x = ρ) (fun x e => by injection e with e; exact e.symm)) (fun _ _ e => e)
  have hat' : ρ' = ρ ∨ w.heap.size ≤ ρ' := by
    rcases hat with e | e
    · injection e with e; exact Or.inl e
    · right; rw [e]; simp
  exact ⟨h.at', h.below.trans (kk.below (by omega) (fun x e => by omega)), by have := kk.size; omega, h.want.fr kk (by omega), h.inC.fr kk (by omega), h.visC.fr kk (by omega), ho, by omega⟩
/-- queue[:0]. -/
theorem Md.noQueue (h : Md w0 w b n mn inK vis ρ c Q) : Md w0 w b n mn inK vis ρ c [] :=
  ⟨h.at', h.below, h.size, h.want, h.inC, h.visC, ⟨ownsRow_none h.queue.own⟩, h.ne⟩
end
/-- The state when all is made. -/
theorem md_start {w wc : World} {b n : Nat} (hn : n ≤ 256) (hb : w.heap.size = b) (hsz : wc.heap.size = b + 1) (hN : Nums wc b n (fun _ => 9223372036854775807)) (hB : Below b w wc) :
    Md w (((wc.alloc (.cells (madeCells #[.bool false] n) 4)).alloc (.cells (madeCells #[.bool false] n) 4)).alloc (.cells (madeCells #[.int .i64 0] n) 3)) b n (fun _ => 9223372036854775807) (fun _ => false) (fun _ => false) (b + 3) n [] := by
  have x1 := bools_made wc n
  have s1 : (wc.alloc (.cells (madeCells #[.bool false] n) 4)).heap.size = b + 2 := by simp [hsz]
  have k1 := Fr.alloc wc (.cells (madeCells #[.bool false] n) 4) (fun _ => False)
  rw [hsz] at x1
  generalize wc.alloc (.cells (madeCells #[.bool false] n) 4) = W1 at *
  have x2 := bools_made W1 n
  have s2 : (W1.alloc (.cells (madeCells #[.bool false] n) 4)).heap.size = b + 3 := by simp [s1]
  have k2 := Fr.alloc W1 (.cells (madeCells #[.bool false] n) 4) (fun _ => False)
  rw [s1] at x2
  generalize W1.alloc (.cells (madeCells #[.bool false] n) 4) = W2 at *
  have x4 := World.ownsRow_made (base := b) (e := 3) (size := 1) W2 (madeCells #[.int .i64 0] n) n (by omega) (by simp [maxLen]; omega) (by rw [size_madeCells]; omega)
  have s4 : (W2.alloc (.cells (madeCells #[.int .i64 0] n) 3)).heap.size = b + 4 := by simp [s2]
  have k4 := Fr.alloc W2 (.cells (madeCells #[.int .i64 0] n) 3) (fun _ => False)
  rw [s2] at x4
  generalize W2.alloc (.cells (madeCells #[.int .i64 0] n) 3) = W3 at *
  have j2 : Fr W1 W3 (fun _ => False) := k2.trans k4 (fun _ _ e => e)
  have j1 : Fr wc W3 (fun _ => False) := k1.trans j2 (fun _ _ e => e)
  exact ⟨hb, hB.trans (j1.below (by omega) (fun _ e => e.elim)), by omega, hN.fr j1 (fun e => e), x1.fr j2 (fun e => e), x2.fr k4 (fun e => e), ⟨x4⟩, by omega⟩
end Go.Proofs.YbulkbmsFmt
