import Derived.Test.YbulkbmsFmtLt
namespace Go.Proofs.YbulkbmsFmt
open Go.RowKit

/-- The chordal graph as it lies in memory. -/
structure ChAt (w : World) (cg g n : Nat) (Ks : List (List Nat)) : Prop where
  lab : w.cell? ⟨cg, 0, none⟩ = some (.pointer (some ⟨g, 0, none⟩))
  cl : ∃ b c, w.cell? ⟨cg, 2, none⟩ = some (.slice (some ⟨b, 0, none⟩) n c) ∧ ∀ (k : Nat) (K : List Nat), Ks[k]? = some K → ∃ b' c', w.cell? ⟨b, k, none⟩ = some (.slice (some ⟨b', 0, none⟩) K.length c') ∧ ∀ (j u : Nat), K[j]? = some u → w.cell? ⟨b', j, none⟩ = some (.int .i64 (u : Int))
  len : Ks.length = n
  lt : ∀ K ∈ Ks, ∀ v ∈ K, v < n
  short : ∀ K ∈ Ks, K.length ≤ n

theorem vertices2_any (cg g n : Nat) (nb : Nat → List Nat) (w : World) (h : GraphAt w g n nb) (hc : w.cell? ⟨cg, 0, none⟩ = some (.pointer (some ⟨g, 0, none⟩))) :
    Calls Ybaf.prog 10 #[.pointer (some ⟨cg, 0, none⟩)] w fun e w' => e = .returned (.int .i64 n) ∧ w = w' := by
  have HG := hide h
  clear h
  go_enter Ybaf.func10, Ybaf.ntmps10
  go_wp2_with (go_at_call 20; refine (vertices_any g n nb _ HG.out).mono ?_; rintro e w' ⟨rfl, rfl⟩)
  go_ret
  exact ⟨rfl, rfl⟩

theorem Ybaf.info4 : (Ybaf.prog.info? 4).map (fun i => (i.zero, i.size, i.bytes)) = some (some (.bool false), 1, 1) := by kernel_rfl
theorem make_room (n : Nat) (hn : n ≤ 256) (w : World) : (Instr.makeSlice 23 (.int .i64 0) (.int .i64 (n : Int))).run Ybaf.prog w = .ok (.slice (some ⟨w.heap.size, 0, none⟩) 0 n) (w.alloc (.cells (madeCells #[.int .i64 0] n) 3)) := by
  obtain ⟨i0, hi, hz0, hz1, hz2⟩ := info_parts Ybaf.info3
  have hr := run_make (P := Ybaf.prog) w 23 3 i0 (.int .i64 0) Ybaf.underlying23 hi hz0 .i64 .i64 0 n (by omega) (by omega) (by rw [hz2]; omega) (by omega)
  rw [hz1] at hr
  simpa [Value.cells] using hr

/-- The least over the cliques. -/
def inl (K : List Nat) : Nat → Bool := fun v => decide (v ∈ K)
def least2 (m z : Int) : Int := if z < m then z else m
def minF (F : (Nat → Bool) → Nat → Int) (Ks : List (List Nat)) (x : Nat) : Int := Ks.foldl (fun m K => least2 m (F (inl K) x)) 9223372036854775807
theorem minF_next (F : (Nat → Bool) → Nat → Int) (Ks : List (List Nat)) (x k : Nat) (K : List Nat) (h : Ks[k]? = some K) : minF F (Ks.take (k + 1)) x = least2 (minF F (Ks.take k) x) (F (inl K) x) := by
  unfold minF
  rw [List.take_add_one, h, List.foldl_append]
  rfl
theorem inl_mark (K : List Nat) (j u : Nat) (h : K[j]? = some u) : (fun v => if v = u then true else inl (K.take j) v) = inl (K.take (j + 1)) := by
  funext v
  unfold inl
  rw [List.take_add_one, h]
  by_cases e : v = u <;> simp [e]
theorem inl_unmark (K : List Nat) (j u : Nat) (h : K[j]? = some u) : (fun v => if v = u then false else (inl K v && !inl (K.take j) v)) = fun v => inl K v && !inl (K.take (j + 1)) v := by
  funext v
  unfold inl
  rw [List.take_add_one, h]
  by_cases e : v = u <;> simp [e]
theorem wrap_add (a b : Int) : wrap64 (wrap64 a + b) = wrap64 (a + b) := by unfold wrap64; omega
theorem wrap_add2 (a b : Int) : wrap64 (wrap64 a + wrap64 b) = wrap64 (a + b) := by unfold wrap64; omega
theorem wrap_zero : wrap64 0 = 0 := by unfold wrap64; omega
theorem isum_take (wt : Nat → Int) (L : List Nat) (j u : Nat) (h : L[j]? = some u) : Gr.isum wt (L.take (j + 1)) = Gr.isum wt (L.take j) + wt u := by
  rw [List.take_add_one, h, Gr.isum_append]
  simp [Gr.isum]

/-- Component as lightest calls it. -/
theorem comp_light {w0 w : World} {g n : Nat} {adj : Nat → Nat → Bool} {nb : Nat → List Nat} (hG : GraphAt w0 g n nb) (N : Gr.Nbs adj nb n) (hn : n ≤ 256) {b : Nat} {mn : Nat → Int} {inK seen : Nat → Bool} {of : Nat → Nat} {cnt : Nat → Int} {ρs cs : Nat} {S : List Int} {ρr cr : Nat} {R : List Nat} (h : Lt w0 w b n mn inK seen of cnt ρs cs S ρr cr R) (s : Nat) (hs : s < n) (c2 : Nat) :
    Calls Ybaf.prog 11 #[.pointer (some ⟨g, 0, none⟩), .int .i64 s, .slice (some ⟨b + 2, 0, none⟩) n c2, .slice (some ⟨ρr, 0, none⟩) 0 cr] w fun e w' => ∃ ρ c M f L, e = .returned (.slice (some ⟨ρ, 0, none⟩) M c) ∧ Hid (M = L.length ∧ M ≤ n ∧ Gr.IsReach adj seen s L ∧ (∀ v ∈ L, v < n) ∧ ∀ v, v < n → (f v = true ↔ seen v = true ∨ v ∈ L)) ∧ Hid (Lt w0 w' b n mn inK f of cnt ρs cs S ρ c L) := by
  have hb : Below w0.heap.size w0 w := by rw [h.at']; exact h.below
  refine (component_any w0 g n adj nb hG N (b + 2) c2 seen s hs (.slice (some ⟨ρr, 0, none⟩) 0 cr) [] b w hn (by simp) hb h.seenC (by rw [h.at']; omega) (ownsRow_none h.reached.own) (by rw [h.at']; omega) (by have := h.size; omega) (by
    intro e
    injection e with e
    have := h.neR
    simp at e
    omega)).mono ?_
  rintro e w' ⟨ρ, c, t, f, L, rfl, ht, hc⟩
  refine ⟨ρ, c, L.length, f, L, by simp, ⟨rfl, hc.srch.short, hc.srch.over N ht, hc.srch.lt, hc.srch.seen_iff⟩, h.comped hc.fr hc.marks hc.row hc.at'⟩
theorem Lt.far {w0 w : World} {b n : Nat} {mn : Nat → Int} {inK seen : Nat → Bool} {of : Nat → Nat} {cnt : Nat → Int} {ρs cs : Nat} {S : List Int} {ρr cr : Nat} {R : List Nat} (h : Lt w0 w b n mn inK seen of cnt ρs cs S ρr cr R) {a : Addr} {v : Value} (hc : w0.cell? a = some v) : w.cell? a = some v :=
  cell_later (by rw [h.at']; exact h.below) hc
theorem Lt.cong {w0 w : World} {b n : Nat} {mn mn' : Nat → Int} {inK inK' seen : Nat → Bool} {of of' : Nat → Nat} {cnt : Nat → Int} {ρs cs : Nat} {S S' : List Int} {ρr cr : Nat} {R : List Nat} (h : Lt w0 w b n mn inK seen of cnt ρs cs S ρr cr R) (h1 : ∀ v, v < n → mn v = mn' v) (h2 : ∀ v, v < n → inK v = inK' v) (h3 : ∀ v, v < n → of v = of' v) (h4 : S = S') : Lt w0 w b n mn' inK' seen of' cnt ρs cs S' ρr cr R :=
  ⟨h.at', h.below, h.size, h.least.congr h1, h.inC.congr h2, h.seenC, h.ofC.congr (fun v hv => by rw [h3 v hv]), h.cntC, h4 ▸ h.sums, h.reached, h.neS, h.neR, h.ne⟩
/-- The state when all is made. -/
theorem lt_start {w wc : World} {b n : Nat} (hn : n ≤ 256) (hb : w.heap.size = b) (hsz : wc.heap.size = b + 1) (hN : Nums wc b n (fun _ => 9223372036854775807)) (hB : Below b w wc) :
    Lt w ((((((wc.alloc (.cells (madeCells #[.bool false] n) 4)).alloc (.cells (madeCells #[.bool false] n) 4)).alloc (.cells (madeCells #[.int .i64 0] n) 3)).alloc (.cells (madeCells #[.int .i64 0] n) 3)).alloc (.cells (madeCells #[.int .i64 0] n) 3)).alloc (.cells (madeCells #[.int .i64 0] n) 3)) b n (fun _ => 9223372036854775807) (fun _ => false) (fun _ => false) (fun _ => 0) (fun _ => 0) (b + 4) n [] (b + 6) n [] := by
  have x1 := bools_made wc n
  have s1 : (wc.alloc (.cells (madeCells #[.bool false] n) 4)).heap.size = b + 2 := by simp [hsz]
  have k1 := Fr.alloc wc (.cells (madeCells #[.bool false] n) 4) (fun _ => False)
  rw [hsz] at x1
  generalize wc.alloc (.cells (madeCells #[.bool false] n) 4) = W1 at *
  have x2 := bools_made W1 n
  have s2 : (W1.alloc (.cells (madeCells #[.bool false] n) 4)).heap.size = b + 3 := by simp [s1]
  have k2 := Fr.alloc W1 (.cells (madeCells #[.bool false] n) 4) (fun _ => False)
  rw [s1] at x2
  generalize W1.alloc (.cells (madeCells #[.bool false] n) 4) = W2 at *
  have x3 := nums_made W2 n
  have s3 : (W2.alloc (.cells (madeCells #[.int .i64 0] n) 3)).heap.size = b + 4 := by simp [s2]
  have k3 := Fr.alloc W2 (.cells (madeCells #[.int .i64 0] n) 3) (fun _ => False)
  rw [s2] at x3
  generalize W2.alloc (.cells (madeCells #[.int .i64 0] n) 3) = W3 at *
  have x4 := World.ownsRow_made (base := b) (e := 3) (size := 1) W3 (madeCells #[.int .i64 0] n) n (by omega) (by simp [maxLen]; omega) (by rw [size_madeCells]; omega)
  have s4 : (W3.alloc (.cells (madeCells #[.int .i64 0] n) 3)).heap.size = b + 5 := by simp [s3]
  have k4 := Fr.alloc W3 (.cells (madeCells #[.int .i64 0] n) 3) (fun _ => False)
  rw [s3] at x4
  generalize W3.alloc (.cells (madeCells #[.int .i64 0] n) 3) = W4 at *
  have x5 := nums_made W4 n
  have s5 : (W4.alloc (.cells (madeCells #[.int .i64 0] n) 3)).heap.size = b + 6 := by simp [s4]
  have k5 := Fr.alloc W4 (.cells (madeCells #[.int .i64 0] n) 3) (fun _ => False)
  rw [s4] at x5
  generalize W4.alloc (.cells (madeCells #[.int .i64 0] n) 3) = W5 at *
  have x6 := World.ownsRow_made (base := b) (e := 3) (size := 1) W5 (madeCells #[.int .i64 0] n) n (by omega) (by simp [maxLen]; omega) (by rw [size_madeCells]; omega)
  have s6 : (W5.alloc (.cells (madeCells #[.int .i64 0] n) 3)).heap.size = b + 7 := by simp [s5]
  have k6 := Fr.alloc W5 (.cells (madeCells #[.int .i64 0] n) 3) (fun _ => False)
  rw [s5] at x6
  generalize W5.alloc (.cells (madeCells #[.int .i64 0] n) 3) = W6 at *
  have j5 : Fr W5 W6 (fun _ => False) := k6
  have j4 : Fr W4 W6 (fun _ => False) := k5.trans j5 (fun _ _ e => e)
  have j3 : Fr W3 W6 (fun _ => False) := k4.trans j4 (fun _ _ e => e)
  have j2 : Fr W2 W6 (fun _ => False) := k3.trans j3 (fun _ _ e => e)
  have j1 : Fr W1 W6 (fun _ => False) := k2.trans j2 (fun _ _ e => e)
  have j0 : Fr wc W6 (fun _ => False) := k1.trans j1 (fun _ _ e => e)
  exact ⟨hb, hB.trans (j0.below (by omega) (fun _ e => e.elim)), by omega, hN.fr j0 (fun e => e), x1.fr j1 (fun e => e), x2.fr j2 (fun e => e), (x3.fr j3 (fun e => e)).congr (by simp), x5.fr j5 (fun e => e), ⟨ownsRow_fr x4 j4 (fun e => e)⟩, ⟨x6⟩, by omega, by omega, by omega⟩

theorem neighbours_far {w0 : World} (g n : Nat) (nb : Nat → List Nat) (v : Nat) (hv : v < n) (w : World) (h : GraphAt w0 g n nb) (hB : Below w0.heap.size w0 w) :
    Calls Ybaf.prog 7 #[.pointer (some ⟨g, 0, none⟩), .int .i64 v] w fun e w' => (∃ a c', e = .returned (.slice a (nb v).length c') ∧ ∀ (i u : Nat), (nb v)[i]? = some u → ∃ b', a = some ⟨b', 0, none⟩ ∧ w0.cell? ⟨b', i, none⟩ = some (.int .i64 (u : Int))) ∧ w = w' := by
  obtain ⟨b, c2, h2', h3⟩ := h.neighs
  obtain ⟨a', c', h4', h5⟩ := h3 v hv
  have h2 := cell_later hB h2'
  have h4 := cell_later hB h4'
  have H5 := hide h5
  clear h h3 h5 h2' h4' hB
  have hl : (v : Int) < (n : Int) := by omega
  go_enter Ybaf.func7, Ybaf.ntmps7
  go_wp2_with fail
  go_ret
  exact ⟨⟨a', c', rfl, H5.out⟩, rfl⟩
theorem addr_add (B j : Nat) : (⟨B, 0, none⟩ : Addr).add j = ⟨B, j, none⟩ := by unfold Addr.add; split <;> simp_all
/-- copy(seen, inClique). -/
theorem lt_copy {w0 w : World} {b n : Nat} {mn : Nat → Int} {inK seen : Nat → Bool} {of : Nat → Nat} {cnt : Nat → Int} {ρs cs : Nat} {S : List Int} {ρr cr : Nat} {R : List Nat} (h : Lt w0 w b n mn inK seen of cnt ρs cs S ρr cr R) :
    ∃ W, (∀ ty, (Builtin.copy_ #[34, 34] ty #[.slice (some ⟨b + 2, 0, none⟩) n n, .slice (some ⟨b + 1, 0, none⟩) n n]).run Ybaf.prog w = .ok (goInt n) W) ∧ Hid (Lt w0 W b n mn inK inK of cnt ρs cs S ρr cr R) := by
  refine ⟨w.setCells (b + 2) 0 ((List.range n).map fun v => .bool (inK v)), fun ty => ?_, h.turnSeen (Fr.setCells _ _ _ _) _ (bools_setCells w (b + 2) n seen inK h.seenC)⟩
  have := run_copy_cells (P := Ybaf.prog) w 34 34 ty 4 (b + 2) 0 n n ⟨b + 1, 0, none⟩ n n ((List.range n).map fun v => .bool (inK v)) Ybaf.underlying34 (by
      have := Ybaf.info4
      obtain ⟨i, hi, h2⟩ := Option.map_eq_some_iff.1 this
      rw [hi]
      simp at h2 ⊢
      exact h2.2.1) (by simp)
    (fun j v hj => by
      obtain ⟨hlt, he⟩ := List.getElem?_eq_some_iff.1 hj
      simp at hlt he
      subst he
      rw [addr_add]
      exact h.inC.cell j hlt)
    (fun j hj => by simp at hj; rw [Nat.zero_add, h.seenC.cell j hj]; rfl)
    (fun j hj => by simp at hj; rw [Nat.zero_add]; exact h.seenC.free j hj)
    (fun v hv => by
      obtain ⟨x, _, rfl⟩ := List.mem_map.1 hv
      rfl)
  simpa using this
/-- clear(counted[:m]). -/
theorem lt_clear {w0 w : World} {b n : Nat} {mn : Nat → Int} {inK seen : Nat → Bool} {of : Nat → Nat} {cnt : Nat → Int} {ρs cs : Nat} {S : List Int} {ρr cr : Nat} {R : List Nat} (h : Lt w0 w b n mn inK seen of cnt ρs cs S ρr cr R) (m : Nat) (hm : m ≤ n) :
    ∃ W, (∀ ty, (Builtin.clear_ #[23] ty #[.slice (some ⟨b + 5, 0, none⟩) m n]).run Ybaf.prog w = .ok (.tuple #[]) W) ∧ Hid (Lt w0 W b n mn inK seen of (fun v => if v < m then 0 else cnt v) ρs cs S ρr cr R) := by
  refine ⟨w.setCells (b + 5) 0 (List.replicate m (.int .i64 0)), fun ty => ?_, h.turnCnt (Fr.setCells _ _ _ _) _ (nums_cleared w (b + 5) n m cnt h.cntC hm)⟩
  by_cases h0 : 0 < m
  · exact Lib.run_clear_slice (P := Ybaf.prog) w 23 3 ty (.int .i64 0) Ybaf.underlying23 Ybaf.zeroValue3 rfl rfl (b + 5) 0 m n h0 (fun j hj => by rw [Nat.zero_add, h.cntC.cell j (by omega)]; rfl) (fun j hj => by rw [Nat.zero_add]; exact h.cntC.free j (by omega))
  · obtain rfl : m = 0 := by omega
    simp [Builtin.clear_, run_underlying Ybaf.underlying23, World.setCells]
end Go.Proofs.YbulkbmsFmt
