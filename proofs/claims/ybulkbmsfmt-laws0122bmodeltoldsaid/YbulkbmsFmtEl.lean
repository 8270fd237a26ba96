import Derived.Test.YbulkbmsFmtElimP
namespace Go.Proofs.YbulkbmsFmt
open Go.RowKit

/-- eliminate's memory while the order is made. -/
structure E1 (w0 w : World) (b cg g n : Nat) (vis : Nat → Bool) (cnt rk : Nat → Int) : Prop where
  lo : w0.heap.size ≤ cg ∧ cg < b
  below : Below w0.heap.size w0 w
  size : w.heap.size = b + 4
  box : w.cell? ⟨b, 0, none⟩ = some (.pointer (some ⟨cg, 0, none⟩))
  lab : w.cell? ⟨cg, 0, none⟩ = some (.pointer (some ⟨g, 0, none⟩))
  rank : w.cell? ⟨cg, 1, none⟩ = some (.slice (some ⟨b + 3, 0, none⟩) n n)
  cl : w.cell? ⟨cg, 2, none⟩ = some (.slice none 0 0)
  wid : w.cell? ⟨cg, 3, none⟩ = some (.int .i64 0)
  fz : ∀ j, w.frozen? ⟨cg, j, none⟩ = false
  visC : Bools w (b + 1) n vis
  cntC : Nums w (b + 2) n cnt
  rkC : Nums w (b + 3) n rk
theorem Fr.frozen {w w' : World} {ex : Nat → Prop} (h : Fr w w' ex) {a : Addr} {v : Value} (hc : w.cell? a = some v) (hn : ¬ ex a.block) : w'.frozen? a = w.frozen? a :=
  World.frozen?_of_block (h.block a.block (World.block_lt_of_cell? w _ hc) hn)
theorem Fr.frozenAt {w w' : World} {ex : Nat → Prop} (h : Fr w w' ex) {a : Addr} (hl : a.block < w.heap.size) (hn : ¬ ex a.block) : w'.frozen? a = w.frozen? a :=
  World.frozen?_of_block (h.block a.block hl hn)
section
variable {w0 w : World} {b cg g n : Nat} {vis : Nat → Bool} {cnt rk : Nat → Int}
theorem E1.putVis (h : E1 w0 w b cg g n vis cnt rk) {x : Nat} (hx : x < n) (z : Bool) : E1 w0 (w.setCell ⟨b + 1, x, none⟩ (.bool z)) b cg g n (fun v => if v = x then z else vis v) cnt rk :=
  have k := Fr.setCell w ⟨b + 1, x, none⟩ (.bool z) (fun y => y = b + 1) rfl
  ⟨h.lo, h.below.trans (k.below h.below.size (fun y e => by have := h.lo; omega)), by simpa using h.size, k.cell h.box (by simp), k.cell h.lab (by have := h.lo; simp; omega), k.cell h.rank (by have := h.lo; simp; omega), k.cell h.cl (by have := h.lo; simp; omega), k.cell h.wid (by have := h.lo; simp; omega), fun j => by simpa using h.fz j, h.visC.set hx z, h.cntC.fr k (by omega), h.rkC.fr k (by omega)⟩
theorem E1.putCnt (h : E1 w0 w b cg g n vis cnt rk) {x : Nat} (hx : x < n) (z : Int) : E1 w0 (w.setCell ⟨b + 2, x, none⟩ (.int .i64 z)) b cg g n vis (fun v => if v = x then z else cnt v) rk :=
  have k := Fr.setCell w ⟨b + 2, x, none⟩ (.int .i64 z) (fun y => y = b + 2) rfl
  ⟨h.lo, h.below.trans (k.below h.below.size (fun y e => by have := h.lo; omega)), by simpa using h.size, k.cell h.box (by simp), k.cell h.lab (by have := h.lo; simp; omega), k.cell h.rank (by have := h.lo; simp; omega), k.cell h.cl (by have := h.lo; simp; omega), k.cell h.wid (by have := h.lo; simp; omega), fun j => by simpa using h.fz j, h.visC.fr k (by omega), h.cntC.set hx z, h.rkC.fr k (by omega)⟩
theorem E1.putRk (h : E1 w0 w b cg g n vis cnt rk) {x : Nat} (hx : x < n) (z : Int) : E1 w0 (w.setCell ⟨b + 3, x, none⟩ (.int .i64 z)) b cg g n vis cnt (fun v => if v = x then z else rk v) :=
  have k := Fr.setCell w ⟨b + 3, x, none⟩ (.int .i64 z) (fun y => y = b + 3) rfl
  ⟨h.lo, h.below.trans (k.below h.below.size (fun y e => by have := h.lo; omega)), by simpa using h.size, k.cell h.box (by simp), k.cell h.lab (by have := h.lo; simp; omega), k.cell h.rank (by have := h.lo; simp; omega), k.cell h.cl (by have := h.lo; simp; omega), k.cell h.wid (by have := h.lo; simp; omega), fun j => by simpa using h.fz j, h.visC.fr k (by omega), h.cntC.fr k (by omega), h.rkC.set hx z⟩
theorem E1.drewN (h : E1 w0 w b cg g n vis cnt rk) (k : Nat) : E1 w0 (w.drewN k) b cg g n vis cnt rk :=
  ⟨h.lo, below_drewN h.below k, h.size, h.box, h.lab, h.rank, h.cl, h.wid, h.fz, h.visC.block rfl, h.cntC.block rfl, h.rkC.block rfl⟩
theorem E1.cong (h : E1 w0 w b cg g n vis cnt rk) {vis' : Nat → Bool} {cnt' rk' : Nat → Int} (h1 : ∀ v, v < n → vis v = vis' v) (h2 : ∀ v, v < n → cnt v = cnt' v) (h3 : ∀ v, v < n → rk v = rk' v) : E1 w0 w b cg g n vis' cnt' rk' :=
  ⟨h.lo, h.below, h.size, h.box, h.lab, h.rank, h.cl, h.wid, h.fz, h.visC.congr h1, h.cntC.congr h2, h.rkC.congr h3⟩
end
/-- At the start. -/
theorem e1_start {w0 w : World} {b cg g n : Nat} (hlo : w0.heap.size ≤ cg ∧ cg < b) (hB : Below w0.heap.size w0 w) (hb : w.heap.size = b) (h0 : w.cell? ⟨cg, 0, none⟩ = some (.pointer (some ⟨g, 0, none⟩))) (h1 : w.cell? ⟨cg, 1, none⟩ = some (.slice none 0 0)) (h2 : w.cell? ⟨cg, 2, none⟩ = some (.slice none 0 0)) (h3 : w.cell? ⟨cg, 3, none⟩ = some (.int .i64 0)) (hf : ∀ j, w.frozen? ⟨cg, j, none⟩ = false) :
    E1 w0 (((((w.alloc (.cells #[.pointer (some ⟨cg, 0, none⟩)] 28)).alloc (.cells (madeCells #[.bool false] n) 4)).alloc (.cells (madeCells #[.int .i64 0] n) 3)).alloc (.cells (madeCells #[.int .i64 0] n) 3)).setCell ⟨cg, 1, none⟩ (.slice (some ⟨b + 3, 0, none⟩) n n)) b cg g n (fun _ => false) (fun _ => 0) (fun _ => 0) := by
  have x0 : (w.alloc (.cells #[.pointer (some ⟨cg, 0, none⟩)] 28)).cell? ⟨b, 0, none⟩ = some (.pointer (some ⟨cg, 0, none⟩)) := by
    have := cell_one_new w (.pointer (some ⟨cg, 0, none⟩)) 28 0 _ rfl
    rw [addr_add, hb] at this
    exact this
  have s0 : (w.alloc (.cells #[.pointer (some ⟨cg, 0, none⟩)] 28)).heap.size = b + 1 := by simp [hb]
  have k0 := Fr.alloc w (.cells #[.pointer (some ⟨cg, 0, none⟩)] 28) (fun _ => False)
  generalize w.alloc (.cells #[.pointer (some ⟨cg, 0, none⟩)] 28) = W0 at *
  have k1 := Fr.alloc W0 (.cells (madeCells #[.bool false] n) 4) (fun _ => False)
  have x1 := bools_made W0 n
  have s1 : (W0.alloc (.cells (madeCells #[.bool false] n) 4)).heap.size = b + 2 := by simp [s0]
  rw [s0] at x1
  generalize W0.alloc (.cells (madeCells #[.bool false] n) 4) = W1 at *
  have k2 := Fr.alloc W1 (.cells (madeCells #[.int .i64 0] n) 3) (fun _ => False)
  have x2 := nums_made W1 n
  have s2 : (W1.alloc (.cells (madeCells #[.int .i64 0] n) 3)).heap.size = b + 3 := by simp [s1]
  rw [s1] at x2
  generalize W1.alloc (.cells (madeCells #[.int .i64 0] n) 3) = W2 at *
  have k3 := Fr.alloc W2 (.cells (madeCells #[.int .i64 0] n) 3) (fun _ => False)
  have x3 := nums_made W2 n
  have s3 : (W2.alloc (.cells (madeCells #[.int .i64 0] n) 3)).heap.size = b + 4 := by simp [s2]
  rw [s2] at x3
  generalize W2.alloc (.cells (madeCells #[.int .i64 0] n) 3) = W3 at *
  have j2 : Fr W1 W3 (fun _ => False) := k2.trans k3 (fun _ _ e => e)
  have j1 : Fr W0 W3 (fun _ => False) := k1.trans j2 (fun _ _ e => e)
  have j0 : Fr w W3 (fun _ => False) := k0.trans j1 (fun _ _ e => e)
  have kS := Fr.setCell W3 ⟨cg, 1, none⟩ (.slice (some ⟨b + 3, 0, none⟩) n n) (fun y => y = cg) rfl
  have oth : ∀ (j : Nat) (v : Value), j ≠ 1 → w.cell? ⟨cg, j, none⟩ = some v → (W3.setCell ⟨cg, 1, none⟩ (.slice (some ⟨b + 3, 0, none⟩) n n)).cell? ⟨cg, j, none⟩ = some v := fun j v hj h => by
    rw [World.cell?_setCell_other _ _ _ _ (by intro e; injection e with _ e _; omega)]
    exact j0.cell h (fun e => e)
  refine ⟨hlo, (hB.trans (j0.below (by omega) (fun _ e => e.elim))).trans (kS.below (by omega) (fun y e => by omega)), by simpa using s3, kS.cell (j1.cell x0 (fun e => e)) (by simp; omega), oth 0 _ (by omega) h0, World.cell?_setCell_same _ _ _ (j0.cell h1 (fun e => e)), oth 2 _ (by omega) h2, oth 3 _ (by omega) h3, fun j => ?_, (x1.fr j2 (fun e => e)).fr kS (by omega), (x2.fr k3 (fun e => e)).fr kS (by omega), x3.fr kS (by omega)⟩
  rw [World.frozen?_setCell]
  exact (j0.frozenAt (by show cg < _; omega) (fun e => e)).trans (hf j)

/-- eliminate's memory while the cliques are made. -/
structure E2 (w0 w : World) (b cg g n bc : Nat) (rk : Nat → Int) (Ks : List (List Nat)) (top : Nat) : Prop where
  lo : w0.heap.size ≤ cg ∧ cg < b ∧ b + 3 < bc
  below : Below w0.heap.size w0 w
  size : bc < top ∧ top ≤ w.heap.size
  box : w.cell? ⟨b, 0, none⟩ = some (.pointer (some ⟨cg, 0, none⟩))
  lab : w.cell? ⟨cg, 0, none⟩ = some (.pointer (some ⟨g, 0, none⟩))
  rank : w.cell? ⟨cg, 1, none⟩ = some (.slice (some ⟨b + 3, 0, none⟩) n n)
  cl : w.cell? ⟨cg, 2, none⟩ = some (.slice (some ⟨bc, 0, none⟩) n n)
  wid : ∃ z : Int, w.cell? ⟨cg, 3, none⟩ = some (.int .i64 z)
  fz : ∀ j, w.frozen? ⟨cg, j, none⟩ = false
  rkC : Nums w (b + 3) n rk
  rows : ∀ k, k < n → (∃ v, w.cell? ⟨bc, k, none⟩ = some v) ∧ w.frozen? ⟨bc, k, none⟩ = false
  ks : ∀ (k : Nat) (K : List Nat), Ks[k]? = some K → ∃ b' c', bc < b' ∧ b' < top ∧ w.cell? ⟨bc, k, none⟩ = some (.slice (some ⟨b', 0, none⟩) K.length c') ∧ ∀ (j u : Nat), K[j]? = some u → w.cell? ⟨b', j, none⟩ = some (.int .i64 (u : Int))
theorem E2.raise {w0 w : World} {b cg g n bc : Nat} {rk : Nat → Int} {Ks : List (List Nat)} {top top' : Nat} (h : E2 w0 w b cg g n bc rk Ks top) (h1 : top ≤ top') (h2 : top' ≤ w.heap.size) : E2 w0 w b cg g n bc rk Ks top' :=
  ⟨h.lo, h.below, by have := h.size; omega, h.box, h.lab, h.rank, h.cl, h.wid, h.fz, h.rkC, h.rows, fun k K hK => by
    obtain ⟨b', c', h3, h4, h5⟩ := h.ks k K hK
    exact ⟨b', c', h3, by omega, h5⟩⟩
theorem E2.fr {w0 w w' : World} {b cg g n bc : Nat} {rk : Nat → Int} {Ks : List (List Nat)} {top : Nat} {ex : Nat → Prop} (h : E2 w0 w b cg g n bc rk Ks top) (k : Fr w w' ex) (hx : ∀ x, ex x → top ≤ x) : E2 w0 w' b cg g n bc rk Ks top := by
  have hlo := h.lo
  have hs := h.size
  have ne : ∀ x, x < top → ¬ ex x := fun x hx' e => by have := hx x e; omega
  refine ⟨h.lo, h.below.trans (k.below h.below.size (fun x e => by have := hx x e; omega)), by have := k.size; omega, k.cell h.box (ne _ (by simp; omega)), k.cell h.lab (ne _ (by simp; omega)), k.cell h.rank (ne _ (by simp; omega)), k.cell h.cl (ne _ (by simp; omega)), ?_, fun j => ?_, h.rkC.fr k (ne _ (by omega)), fun i hi => ?_, fun i K hK => ?_⟩
  · obtain ⟨z, hz⟩ := h.wid
    exact ⟨z, k.cell hz (ne _ (by simp; omega))⟩
  · exact (k.frozenAt (a := ⟨cg, j, none⟩) (World.block_lt_of_cell? w ⟨cg, 0, none⟩ h.lab) (ne _ (by simp; omega))).trans (h.fz j)
  · obtain ⟨⟨v, hv⟩, hf⟩ := h.rows i hi
    exact ⟨⟨v, k.cell hv (ne _ (by simp; omega))⟩, (k.frozenAt (a := ⟨bc, i, none⟩) (by show bc < _; omega) (ne _ (by simp; omega))).trans hf⟩
  · obtain ⟨b', c', h1, h2, h3, h4⟩ := h.ks i K hK
    exact ⟨b', c', h1, h2, k.cell h3 (ne _ (by simp; omega)), fun j u hj => k.cell (h4 j u hj) (ne _ (by simp; omega))⟩
theorem E2.drewN {w0 w : World} {b cg g n bc : Nat} {rk : Nat → Int} {Ks : List (List Nat)} {top : Nat} (h : E2 w0 w b cg g n bc rk Ks top) (k : Nat) : E2 w0 (w.drewN k) b cg g n bc rk Ks top :=
  h.fr (Fr.drewN w k (fun _ => False)) (fun _ e => e.elim)
/-- cliques[v] = clique. -/
theorem E2.put {w0 w : World} {b cg g n bc : Nat} {rk : Nat → Int} {Ks : List (List Nat)} {top : Nat} (h : E2 w0 w b cg g n bc rk Ks top) {v : Nat} (hv : v < n) (hlen : Ks.length = v) {K : List Nat} {ρ c base : Nat} (ho : Own w base ρ c K) (hbase : bc < base) :
    E2 w0 (w.setCell ⟨bc, v, none⟩ (.slice (some ⟨ρ, 0, none⟩) K.length c)) b cg g n bc rk (Ks ++ [K]) w.heap.size := by
  have k := Fr.setCell w ⟨bc, v, none⟩ (.slice (some ⟨ρ, 0, none⟩) K.length c) (fun y => y = bc) rfl
  have hlo := h.lo
  have hs := h.size
  have hρ := ho.own.lt ρ rfl
  refine ⟨h.lo, h.below.trans (k.below h.below.size (fun y e => by omega)), by simp; omega, k.cell h.box (by simp; omega), k.cell h.lab (by simp; omega), k.cell h.rank (by simp; omega), k.cell h.cl (by simp; omega), ?_, fun j => by simpa using h.fz j, h.rkC.fr k (by omega), fun i hi => ?_, fun i L hL => ?_⟩
  · obtain ⟨z, hz⟩ := h.wid
    exact ⟨z, k.cell hz (by simp; omega)⟩
  · obtain ⟨⟨x, hx⟩, hf⟩ := h.rows i hi
    refine ⟨?_, by simpa using hf⟩
    by_cases e : i = v
    · subst e; exact ⟨_, World.cell?_setCell_same _ _ _ hx⟩
    · exact ⟨x, by rw [World.cell?_setCell_other _ _ _ _ (by intro e2; injection e2 with _ e2 _; omega)]; exact hx⟩
  · by_cases e : i < Ks.length
    · rw [List.getElem?_append_left e] at hL
      obtain ⟨b', c', h1, h2, h3, h4⟩ := h.ks i L hL
      refine ⟨b', c', h1, by omega, ?_, fun j u hj => k.cell (h4 j u hj) (by simp; omega)⟩
      rw [World.cell?_setCell_other _ _ _ _ (by intro e2; injection e2 with _ e2 _; omega)]
      exact h3
    · have hi : i = v := by
        have := (List.getElem?_eq_some_iff.1 hL).1
        simp at this; omega
      subst hi
      have hLK : L = K := by
        rw [← hlen] at hL
        simp at hL; exact hL.symm
      subst hLK
      obtain ⟨⟨x, hx⟩, _⟩ := h.rows i hv
      exact ⟨ρ, c, by omega, hρ.2, World.cell?_setCell_same _ _ _ hx, fun j u hj => k.cell (ho.cell hj) (by simp; omega)⟩
/-- The width. -/
theorem E2.putW {w0 w : World} {b cg g n bc : Nat} {rk : Nat → Int} {Ks : List (List Nat)} {top : Nat} (h : E2 w0 w b cg g n bc rk Ks top) (z : Int) : E2 w0 (w.setCell ⟨cg, 3, none⟩ (.int .i64 z)) b cg g n bc rk Ks top := by
  have k := Fr.setCell w ⟨cg, 3, none⟩ (.int .i64 z) (fun y => y = cg) rfl
  have hlo := h.lo
  have hs := h.size
  have oth : ∀ (j : Nat) (v : Value), j ≠ 3 → w.cell? ⟨cg, j, none⟩ = some v → (w.setCell ⟨cg, 3, none⟩ (.int .i64 z)).cell? ⟨cg, j, none⟩ = some v := fun j v hj h => by
    rw [World.cell?_setCell_other _ _ _ _ (by intro e; injection e with _ e _; omega)]
    exact h
  refine ⟨h.lo, h.below.trans (k.below h.below.size (fun y e => by omega)), by simpa using h.size, k.cell h.box (by simp; omega), oth 0 _ (by omega) h.lab, oth 1 _ (by omega) h.rank, oth 2 _ (by omega) h.cl, ?_, fun j => by simpa using h.fz j, h.rkC.fr k (by omega), fun i hi => ?_, fun i L hL => ?_⟩
  · obtain ⟨z', hz⟩ := h.wid
    exact ⟨z, World.cell?_setCell_same _ _ _ hz⟩
  · obtain ⟨⟨x, hx⟩, hf⟩ := h.rows i hi
    exact ⟨⟨x, k.cell hx (by simp; omega)⟩, by simpa using hf⟩
  · obtain ⟨b', c', h1, h2, h3, h4⟩ := h.ks i L hL
    exact ⟨b', c', h1, h2, k.cell h3 (by simp; omega), fun j u hj => k.cell (h4 j u hj) (by simp; omega)⟩
theorem e2_start {w0 w : World} {b cg g n : Nat} {vis : Nat → Bool} {cnt rk : Nat → Int} (h : E1 w0 w b cg g n vis cnt rk) :
    E2 w0 ((w.alloc (.cells (madeCells #[.slice none 0 0] n) 23)).setCell ⟨cg, 2, none⟩ (.slice (some ⟨b + 4, 0, none⟩) n n)) b cg g n (b + 4) rk [] (b + 5) := by
  have hlo := h.lo
  have hs := h.size
  have hrow := World.rowIs_made w (.slice none 0 0) n 23
  have s0 : (w.alloc (.cells (madeCells #[.slice none 0 0] n) 23)).heap.size = b + 5 := by simp [hs]
  have k0 := Fr.alloc w (.cells (madeCells #[.slice none 0 0] n) 23) (fun _ => False)
  rw [hs] at hrow
  generalize w.alloc (.cells (madeCells #[.slice none 0 0] n) 23) = W at *
  have kS := Fr.setCell W ⟨cg, 2, none⟩ (.slice (some ⟨b + 4, 0, none⟩) n n) (fun y => y = cg) rfl
  have oth : ∀ (j : Nat) (v : Value), j ≠ 2 → w.cell? ⟨cg, j, none⟩ = some v → (W.setCell ⟨cg, 2, none⟩ (.slice (some ⟨b + 4, 0, none⟩) n n)).cell? ⟨cg, j, none⟩ = some v := fun j v hj h => by
    rw [World.cell?_setCell_other _ _ _ _ (by intro e; injection e with _ e _; omega)]
    exact k0.cell h (fun e => e)
  refine ⟨by omega, (h.below.trans (k0.below h.below.size (fun _ e => e.elim))).trans (kS.below (by have := h.below.size; omega) (fun y e => by omega)), by simp; omega, kS.cell (k0.cell h.box (fun e => e)) (by simp; omega), oth 0 _ (by omega) h.lab, oth 1 _ (by omega) h.rank, World.cell?_setCell_same _ _ _ (k0.cell h.cl (fun e => e)), ⟨0, oth 3 _ (by omega) h.wid⟩, fun j => ?_, (h.rkC.fr k0 (fun e => e)).fr kS (by omega), fun i hi => ?_, fun i K hK => by simp at hK⟩
  · rw [World.frozen?_setCell]
    exact (k0.frozenAt (by show cg < _; omega) (fun e => e)).trans (h.fz j)
  · exact ⟨⟨_, kS.cell (hrow.cell hi) (by simp; omega)⟩, by rw [World.frozen?_setCell]; exact hrow.frozen i⟩
/-- []int{v}. -/
theorem own_one (w : World) (v : Nat) : Own (w.alloc (.cells #[.int .i64 (v : Int)] 3)) w.heap.size w.heap.size 1 [v] :=
  ⟨⟨by simp [ints], .inr ⟨w.heap.size, 1, _, rfl, Nat.le_refl _, heap_alloc_new w _, by simp, by simp [maxLen], by simp, by simp [ints]⟩⟩⟩
end Go.Proofs.YbulkbmsFmt
