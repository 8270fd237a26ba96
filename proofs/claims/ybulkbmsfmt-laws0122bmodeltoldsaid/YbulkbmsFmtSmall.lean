import Derived.Test.YbulkbmsFmtRows
import Derived.WalkKit
import Derived.WalkSpells
import Derived.WalkLawsBesides
namespace Go.Proofs.YbulkbmsFmt
open Go.RowKit

/-- A fact laid aside. -/
def Hid (p : Prop) : Prop := p
theorem hide {p : Prop} (h : p) : Hid p := h
theorem Hid.out {p : Prop} (h : Hid p) : p := h

/-- The graph as it lies in memory: n vertices, the neighbours of v: nb v. -/
structure GraphAt (w : World) (g n : Nat) (nb : Nat → List Nat) : Prop where
  labels : ∃ a c, w.cell? ⟨g, 0, none⟩ = some (.slice a n c)
  neighs : ∃ b c, w.cell? ⟨g, 2, none⟩ = some (.slice (some ⟨b, 0, none⟩) n c) ∧ ∀ v, v < n → ∃ a c', w.cell? ⟨b, v, none⟩ = some (.slice a (nb v).length c') ∧
    ∀ (i u : Nat), (nb v)[i]? = some u → ∃ b', a = some ⟨b', 0, none⟩ ∧ w.cell? ⟨b', i, none⟩ = some (.int .i64 (u : Int))

theorem GraphAt.later {w wx : World} {g n : Nat} {nb : Nat → List Nat} (h : GraphAt w g n nb) (hb : Below w.heap.size w wx) : GraphAt wx g n nb := by
  obtain ⟨a, c, h1⟩ := h.labels
  obtain ⟨b, c2, h2, h3⟩ := h.neighs
  refine ⟨⟨a, c, cell_later hb h1⟩, ⟨b, c2, cell_later hb h2, fun v hv => ?_⟩⟩
  obtain ⟨a', c', h4, h5⟩ := h3 v hv
  exact ⟨a', c', cell_later hb h4, fun i u hi => let ⟨b', e, h6⟩ := h5 i u hi; ⟨b', e, cell_later hb h6⟩⟩

theorem vertices_any (g n : Nat) (nb : Nat → List Nat) (w : World) (h : GraphAt w g n nb) :
    Calls Ybaf.prog 20 #[.pointer (some ⟨g, 0, none⟩)] w fun e w' => e = .returned (.int .i64 n) ∧ w = w' := by
  obtain ⟨a, c, h1⟩ := h.labels
  clear h
  go_enter Ybaf.func20, Ybaf.ntmps20
  go_wp2_with fail
  go_ret
  exact ⟨rfl, rfl⟩
theorem neighbours_any (g n : Nat) (nb : Nat → List Nat) (v : Nat) (hv : v < n) (w : World) (h : GraphAt w g n nb) :
    Calls Ybaf.prog 7 #[.pointer (some ⟨g, 0, none⟩), .int .i64 v] w fun e w' => (∃ a c', e = .returned (.slice a (nb v).length c') ∧ ∀ (i u : Nat), (nb v)[i]? = some u → ∃ b', a = some ⟨b', 0, none⟩ ∧ w.cell? ⟨b', i, none⟩ = some (.int .i64 (u : Int))) ∧ w = w' := by
  obtain ⟨b, c2, h2, h3⟩ := h.neighs
  obtain ⟨a', c', h4, h5⟩ := h3 v hv
  have H5 := hide h5
  clear h h3 h5
  have hl : (v : Int) < (n : Int) := by omega
  go_enter Ybaf.func7, Ybaf.ntmps7
  go_wp2_with fail
  go_ret
  exact ⟨⟨a', c', rfl, H5.out⟩, rfl⟩
end Go.Proofs.YbulkbmsFmt
