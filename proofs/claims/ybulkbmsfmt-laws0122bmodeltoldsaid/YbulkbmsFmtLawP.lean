import Derived.Test.YbulkbmsFmtGraphNew
import Derived.Test.YbulkbmsFmtLight
import Derived.Test.YbulkbmsFmtMd
import Derived.Test.YbulkbmsFmtEds
import Derived.Laws.BitsAllLaws
import Derived.Laws.BitsLemmas
namespace Go.Proofs.YbulkbmsFmt
open Go.RowKit

/-- What the law draws of P: the parent of vertex i, and the mark. -/
def pF (pv : Nat → Nat) (i : Nat) : Nat := pv (i - 1) % 128 % i
def tF (pv : Nat → Nat) (i : Nat) : Bool := decide (128 ≤ pv (i - 1))
theorem pF_lt (pv : Nat → Nat) (i : Nat) (h : 0 < i) : pF pv i < i := Nat.mod_lt _ h
theorem and127 (a : Nat) (h : a < 256) : bits .and .u8 (a : Int) 127 = ((a % 128 : Nat) : Int) := by
  have h1 := u8_and_nat a 127 h (by omega)
  have h2 : a &&& 127 = a % 128 := Nat.and_two_pow_sub_one_eq_mod a 7
  rw [h2] at h1
  exact h1
theorem and128 (a : Nat) (h : a < 256) : bits .and .u8 (a : Int) 128 = (if 128 ≤ a then 128 else 0 : Int) := by
  have h1 := u8_and_nat a 128 h (by omega)
  have h2 : ∀ b, b < 256 → b &&& 128 = if 128 ≤ b then 128 else 0 := by decide +kernel
  rw [h2 a h] at h1
  by_cases e : 128 ≤ a
  · rw [if_pos e] at h1 ⊢; exact h1
  · rw [if_neg e] at h1 ⊢; exact h1

/-- The edges' cells. -/
def ecells (Es : List (Nat × Nat)) : List Value := Es.flatMap fun e => [.string (lab e.1), .string (lab e.2)]
theorem ecells_snoc (Es : List (Nat × Nat)) (a b : Nat) : ecells (Es ++ [(a, b)]) = ecells Es ++ [.string (lab a), .string (lab b)] := by simp [ecells]
theorem ecells_length (Es : List (Nat × Nat)) : (ecells Es).length = Es.length * 2 := by
  induction Es with
  | nil => rfl
  | cons e Es ih => simp only [ecells, List.flatMap_cons, List.length_append, List.length_cons, List.length_nil] at ih ⊢; omega
theorem ecells_get : ∀ (Es : List (Nat × Nat)) (i a b : Nat), Es[i]? = some (a, b) → (ecells Es)[i * 2]? = some (.string (lab a)) ∧ (ecells Es)[i * 2 + 1]? = some (.string (lab b))
  | [], i, a, b, h => by simp at h
  | e :: Es, 0, a, b, h => by
    simp at h
    subst h
    simp [ecells]
  | e :: Es, i + 1, a, b, h => by
    have h1 := ecells_get Es i a b (by simpa using h)
    have h2 : ecells (e :: Es) = [.string (lab e.1), .string (lab e.2)] ++ ecells Es := by simp [ecells]
    rw [h2, List.getElem?_append_right (by simp; omega), List.getElem?_append_right (by simp; omega)]
    simp only [List.length_cons, List.length_nil]
    rw [show (i + 1) * 2 - (0 + 1 + 1) = i * 2 by omega, show (i + 1) * 2 + 1 - (0 + 1 + 1) = i * 2 + 1 by omega]
    exact h1

/-- The law's memory while it builds. -/
structure A1 (w wr : World) (bl bp n : Nat) (pr : Nat → Int) (ρ c M : Nat) (Es : List (Nat × Nat)) : Prop where
  below : Below w.heap.size w wr
  lo : w.heap.size ≤ bl ∧ bl < bp ∧ bp < wr.heap.size
  labs : ∀ j, j < n → wr.cell? ⟨bl, j, none⟩ = some (.string (lab j))
  par : Nums wr bp n pr
  len : M = Es.length
  edges : wr.ownsRow (bp + 1) 27 2 (.slice (some ⟨ρ, 0, none⟩) M c) M (ecells Es)
theorem own_fr3 {w w' : World} {base e size : Nat} {v : Value} {k : Nat} {xs : List Value} {ex : Nat → Prop} (h : w.ownsRow base e size v k xs) (hk : Fr w w' ex) (hn : ∀ b, v.ownBlock = some b → ¬ ex b) : w'.ownsRow base e size v k xs := by
  refine ⟨h.1, ?_⟩
  rcases h.2 with ⟨e, h0⟩ | ⟨g, cap, cur, e, hb, hg, r⟩
  · exact .inl ⟨e, h0⟩
  · refine .inr ⟨g, cap, cur, e, hb, (hk.block g (Array.getElem?_eq_some_iff.1 hg).1 (hn g ?_)).trans hg, r⟩
    subst e; rfl
theorem A1.putPar {w wr : World} {bl bp n : Nat} {pr : Nat → Int} {ρ c M : Nat} {Es : List (Nat × Nat)} (h : A1 w wr bl bp n pr ρ c M Es) {x : Nat} (hx : x < n) (z : Int) : A1 w (wr.setCell ⟨bp, x, none⟩ (.int .i64 z)) bl bp n (fun v => if v = x then z else pr v) ρ c M Es := by
  have k := Fr.setCell wr ⟨bp, x, none⟩ (.int .i64 z) (fun y => y = bp) rfl
  have hlo := h.lo
  have hρ := h.edges.lt ρ rfl
  exact ⟨h.below.trans (k.below h.below.size (fun y e => by omega)), by simp; omega, fun j hj => k.cell (h.labs j hj) (by simp; omega), h.par.set hx z, h.len, own_fr3 h.edges k (fun b hb e => by injection hb with hb; simp at hb; omega)⟩
theorem A1.drewN {w wr : World} {bl bp n : Nat} {pr : Nat → Int} {ρ c M : Nat} {Es : List (Nat × Nat)} (h : A1 w wr bl bp n pr ρ c M Es) (q : Nat) : A1 w (wr.drewN q) bl bp n pr ρ c M Es :=
  ⟨below_drewN h.below q, h.lo, h.labs, h.par.block rfl, h.len, h.edges⟩
theorem A1.push {w wr w1 : World} {bl bp n : Nat} {pr : Nat → Int} {ρ c M : Nat} {Es : List (Nat × Nat)} (h : A1 w wr bl bp n pr ρ c M Es) {o : Obj} {ρ1 c1 x y : Nat} (hg : (wr.alloc o).grownBy w1 (some ρ)) (ho : w1.ownsRow (bp + 1) 27 2 (.slice (some ⟨ρ1, 0, none⟩) (M + 1) c1) (M + 1) (ecells Es ++ [.string (lab x), .string (lab y)])) :
    A1 w w1 bl bp n pr ρ1 c1 (M + 1) (Es ++ [(x, y)]) := by
  have hlo := h.lo
  have hρ := h.edges.lt ρ rfl
  have k : Fr wr w1 (fun y => y = ρ) := (Fr.alloc wr o (fun y => y = ρ)).trans (Fr.grown hg (fun y => y = ρ) (fun y e => by injection e with e; exact e.symm)) (fun _ _ e => e)
  exact ⟨h.below.trans (k.below h.below.size (fun y e => by omega)), by have := k.size; omega, fun j hj => k.cell (h.labs j hj) (by simp; omega), h.par.fr k (by omega), by simp [h.len], by rw [ecells_snoc]; exact ho⟩
theorem A1.cong {w wr : World} {bl bp n : Nat} {pr pr' : Nat → Int} {ρ c M : Nat} {Es Es' : List (Nat × Nat)} (h : A1 w wr bl bp n pr ρ c M Es) (h1 : ∀ v, v < n → pr v = pr' v) (h2 : Es = Es') : A1 w wr bl bp n pr' ρ c M Es' :=
  ⟨h.below, h.lo, h.labs, h.par.congr h1, h2 ▸ h.len, h2 ▸ h.edges⟩
theorem Ybaf.info27 : (Ybaf.prog.info? 27).map (fun i => (i.zero, i.size, i.bytes)) = some (some (.agg #[.string ⟨#[]⟩, .string ⟨#[]⟩]), 2, 32) := by kernel_rfl
/-- make([][2]string, 0, 2 n). -/
theorem make_edges (n : Nat) (hn : n ≤ 256) : ∃ (C : Nat) (cur : Array Value), (∀ w : World, (Instr.makeSlice 26 (.int .i64 0) (.int .i64 (2 * (n : Int)))).run Ybaf.prog w = .ok (.slice (some ⟨w.heap.size, 0, none⟩) 0 C) (w.alloc (.cells cur 27))) ∧ cur.size = C * 2 ∧ C ≤ maxLen := by
  obtain ⟨i0, hi, hz0, hz1, hz2⟩ := info_parts Ybaf.info27
  refine ⟨2 * n, madeCells (Value.agg #[.string ⟨#[]⟩, .string ⟨#[]⟩]).cells (2 * n * 2), fun w => ?_, by rw [size_madeCells], by unfold maxLen; omega⟩
  have hr := run_make (P := Ybaf.prog) w 26 27 i0 _ Ybaf.underlying26 hi hz0 .i64 .i64 0 (2 * (n : Int)) (by omega) (by omega) (by rw [hz2]; omega) (by omega)
  rw [hz1, show (2 * (n : Int)).toNat = 2 * n by omega] at hr
  exact hr
theorem ChAt.later {w wx : World} {cg g n : Nat} {Ks : List (List Nat)} (h : ChAt w cg g n Ks) (hb : Below w.heap.size w wx) : ChAt wx cg g n Ks := by
  obtain ⟨b, c, h1, h2⟩ := h.cl
  refine ⟨cell_later hb h.lab, ⟨b, c, cell_later hb h1, fun k K hk => ?_⟩, h.len, h.lt, h.short⟩
  obtain ⟨b', c', h3, h4⟩ := h2 k K hk
  exact ⟨b', c', cell_later hb h3, fun j u hj => cell_later hb (h4 j u hj)⟩
theorem exists_F (adj : Nat → Nat → Bool) (wt : Nat → Int) : ∃ F : (Nat → Bool) → Nat → Int, ∀ inK x L, Gr.IsReach adj (Gr.but inK x) x L → wrap64 (Gr.isum wt L) = F inK x := by
  have h : ∀ (q : (Nat → Bool) × Nat), ∃ z : Int, ∀ L, Gr.IsReach adj (Gr.but q.1 q.2) q.2 L → wrap64 (Gr.isum wt L) = z := fun q => by
    by_cases hL : ∃ L, Gr.IsReach adj (Gr.but q.1 q.2) q.2 L
    · obtain ⟨L, hL⟩ := hL
      exact ⟨_, fun L' h' => by rw [h'.sum_eq hL wt]⟩
    · exact ⟨0, fun L h' => absurd ⟨L, h'⟩ hL⟩
  obtain ⟨f, hf⟩ := Classical.axiomOfChoice h
  exact ⟨fun a b => f (a, b), fun a b L h => hf (a, b) L h⟩
/-- The edges as NewGraph reads them. -/
theorem A1.reads {w wr : World} {bl bp n : Nat} {pr : Nat → Int} {ρ c M : Nat} {Es : List (Nat × Nat)} (h : A1 w wr bl bp n pr ρ c M Es) (i a b : Nat) (hi : Es[i]? = some (a, b)) : wr.cell? ⟨ρ, i * 2, none⟩ = some (.string (lab a)) ∧ wr.cell? ⟨ρ, i * 2 + 1, none⟩ = some (.string (lab b)) := by
  obtain ⟨h1, h2⟩ := ecells_get Es i a b hi
  have h3 := h.edges.cells (g := ρ) rfl (i * 2) _ h1
  have h4 := h.edges.cells (g := ρ) rfl (i * 2 + 1) _ h2
  rw [addr_add] at h3 h4
  exact ⟨h3, h4⟩
/-- edges = append(edges, {lab x, lab y}), in a region that draws. -/
theorem push_edge {w X : World} {b bp n : Nat} {pr : Nat → Int} {ρ c M : Nat} {Es : List (Nat × Nat)} (h : A1 w X b bp n pr ρ c M Es) (hM : M ≤ 512) (x y : Nat) :
    ∃ ρ1 cap w1, (Builtin.append_ #[26, 26] 26 #[.slice (some ⟨ρ, 0, none⟩) M c, .slice (some ⟨X.heap.size, 0, none⟩) 1 1]).run Ybaf.prog ((X.alloc (.cells #[.string (lab x), .string (lab y)] 27)).drew) = .ok (.slice (some ⟨ρ1, 0, none⟩) (M + 1) cap) w1 ∧ Hid (A1 w w1 b bp n pr ρ1 cap (M + 1) (Es ++ [(x, y)])) := by
  obtain ⟨i27, hi27, hz0, hz1, hz2⟩ := info_parts Ybaf.info27
  have hlo := h.lo
  obtain ⟨ρ1, cap, w1, happ, hown1, hgr1, hat1, hlt1⟩ := run_append_lies (P := Ybaf.prog) ((X.alloc (.cells #[.string (lab x), .string (lab y)] 27)).drew) 26 26 (bp + 1) 27 i27 _ 2 32 Ybaf.underlying26 hi27 hz0 hz1 hz2 rfl (by omega) (.slice (some ⟨ρ, 0, none⟩) M c) M (ecells Es) ((h.edges.alloc _).drew) ⟨X.heap.size, 0, none⟩ 1 1 [.string (lab x), .string (lab y)] rfl (World.news_of_block (heap_alloc_new X _)) (by intro u hu; simp at hu; rcases hu with e | e <;> subst e <;> rfl) (by omega) (by unfold maxLen; omega) (by omega) (by simp; omega) (X.heap.size + 1) (by simp)
  exact ⟨ρ1, cap, w1, happ, (h.drewN 1).push hgr1 hown1⟩
end Go.Proofs.YbulkbmsFmt
