import Derived.Test.YbulkboiCyc
import Derived.Test.YbulkboiModel
import Derived.Test.YbulkboiEq
import Derived.Deep.RegionHeld
import Derived.OpenShut
namespace Go.Proofs.Ybulkboi
open Go.RowKit Pl

/-- WHAT THE WALK IS TOLD OF A SLICE OF INTEGERS THAT CAME IN: it is nil; or it leads to a row of 'cap' cells, the numbers 'zs' (the first 'len' are its elements, the rest its spare room), each fitting its kind. -/
def IsRow (k : IntKind) (w : World) (a : Option Addr) (len cap : Nat) (zs : List Int) : Prop :=
  (a = none ∧ len = 0 ∧ cap = 0 ∧ zs = []) ∨
  ∃ x, a = some x ∧ len ≤ cap ∧ cap ≤ maxLen ∧ zs.length = cap ∧ (∀ i, i < zs.length → w.cell? (x.add i) = some (.int k (zs.getD i 0))) ∧ ∀ n ∈ zs, (Lit.int k n).wf = true

theorem add_block (x : Addr) (i : Nat) : (x.add i).block = x.block := by unfold Addr.add; split <;> rfl
theorem isRow_src {w : World} {a : Option Addr} {len cap : Nat} {zs : List Int} (h : IsRow .u64 w a len cap zs) (n : Nat) (hn : n ≤ len) : Src w a n (fun i => zs.getD i 0) := by
  intro i hi
  rcases h with ⟨_, h, _, _⟩ | ⟨x, rfl, h1, _, h3, h4, _⟩
  · omega
  · have hc := h4 i (by omega)
    have := World.block_lt_of_cell? w _ hc
    rw [add_block] at this
    exact ⟨x, rfl, hc, this⟩
theorem wd_of_wf {n : Int} (h : (Lit.int .u64 n).wf = true) : Wd n := by
  have := bounds_u64 h
  unfold Wd M; omega
theorem isRow_wd {w : World} {a : Option Addr} {len cap : Nat} {zs : List Int} (h : IsRow .u64 w a len cap zs) (i : Nat) : Wd (zs.getD i 0) := by
  by_cases hi : i < zs.length
  · rcases h with ⟨_, _, _, h⟩ | ⟨_, _, _, _, _, _, h⟩
    · subst h; simp at hi
    · refine wd_of_wf (h _ ?_)
      rw [List.getD_eq_getElem?_getD, List.getElem?_eq_getElem hi]
      exact List.getElem_mem hi
  · rw [List.getD_eq_getElem?_getD, List.getElem?_eq_none (by omega)]; exact zero_wd
theorem flp_wd (b : Bool) {x : Int} (h : Wd x) : Wd (flp b x) := by
  unfold flp
  cases b
  · exact h
  · rw [if_pos rfl]; exact wd_of_wf (wf_bits _ _ _ _)
theorem Src.later {w w' : World} {a : Option Addr} {n : Nat} {f : Nat → Int} (h : Src w a n f) (hb : Below w.heap.size w w') : Src w' a n f := by
  intro i hi
  obtain ⟨x, rfl, hc, hl⟩ := h i hi
  exact ⟨x, rfl, cell_later hb hc, by have := hb.size; omega⟩
/-- A row of n words, zero behind them. -/
def ext (n : Nat) (f : Nat → Int) (i : Nat) : Int := if i < n then f i else 0
theorem ext_wd (n : Nat) {f : Nat → Int} (h : ∀ i, Wd (f i)) (i : Nat) : Wd (ext n f i) := by
  unfold ext; split
  · exact h i
  · exact zero_wd
theorem ext_zero (n : Nat) (f : Nat → Int) (i : Nat) (h : n ≤ i) : ext n f i = 0 := if_neg (by omega)
theorem Row.ext {w : World} {b n : Nat} {f : Nat → Int} (h : Row w b n f) : Row w b n (Ybulkboi.ext n f) := h.congr fun _ hi => if_pos hi
theorem below2 {w a b : World} (h1 : Below w.heap.size w a) (h2 : Below a.heap.size a b) : Below w.heap.size w b := h1.trans (h2.mono h1.size)
theorem below_drewN {B : Nat} {w a : World} (h : Below B w a) (n : Nat) : Below B w (a.drewN n) := ⟨h.os, h.tape, h.output, h.size, h.block⟩
end Go.Proofs.Ybulkboi
