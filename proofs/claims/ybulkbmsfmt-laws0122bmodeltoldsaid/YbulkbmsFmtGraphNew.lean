import Derived.Test.YbulkbmsFmtNew
import Derived.Test.YbulkbmsFmtElim
namespace Go.Proofs.YbulkbmsFmt
open Go.RowKit

set_option maxRecDepth 100000 in
set_option maxHeartbeats 1000000 in
/-- chordal.NewGraph on a graph that has an elimination order. -/
theorem newgraph_any (w : World) (bl cl be ce n m : Nat) (Es : List (Nat × Nat)) (adj : Nat → Nat → Bool) (hn0 : 0 < n) (hn : n ≤ 256) (hm : m ≤ 512) (hml : Es.length = m)
    (hlabs : ∀ j, j < n → w.cell? ⟨bl, j, none⟩ = some (.string (lab j)))
    (hedges : ∀ (i a b : Nat), Es[i]? = some (a, b) → w.cell? ⟨be, i * 2, none⟩ = some (.string (lab a)) ∧ w.cell? ⟨be, i * 2 + 1, none⟩ = some (.string (lab b)))
    (hE : ∀ e ∈ Es, e.2 < e.1 ∧ e.1 < n) (hd : Es.Nodup) (E : Gr.Elim adj) (hlt : ∀ a b, adj a b = true → a < n ∧ b < n) (hadj : ∀ a b, adj a b = true ↔ ((a, b) ∈ Es ∨ (b, a) ∈ Es)) (hconn : ∀ v, v < n → Gr.Reach adj (fun _ => false) 0 v) :
    Calls Ybaf.prog 5 #[.slice (some ⟨bl, 0, none⟩) n cl, .slice (some ⟨be, 0, none⟩) m ce] w fun e w' => ∃ cg g nb Ks, e = .returned (.tuple #[.pointer (some ⟨cg, 0, none⟩), .nilIface]) ∧ Hid (GraphAt w' g n nb ∧ Gr.Nbs adj nb n ∧ ChAt w' cg g n Ks ∧ Below w.heap.size w w') := by
  have HN := hide (new_any w ⟨#[103, 114, 97, 112, 104]⟩ bl cl be ce n m Es adj hn0 hn hm hml hlabs hedges hE hd E.sym hlt hadj hconn)
  clear hlabs hedges hE hd hlt hadj hconn
  go_enter Ybaf.func5, Ybaf.ntmps5
  go_upto_region 2 with (first | (go_at_call 8; refine HN.out.mono ?_; rintro e w1 ⟨g, nb, rfl, hG, NN, hsort, hB⟩; have HG := hide hG; have Hsort := hide hsort; have HB := hide hB; clear hG hsort hB) | fail)
  clear HN
  have hnewb := heap_alloc_new w1 (.cells #[.pointer (some ⟨g, 0, none⟩), .slice none 0 0, .slice none 0 0, .int .i64 0] 38)
  have HEl := hide (eliminate_any w1 (w1.alloc (.cells #[.pointer (some ⟨g, 0, none⟩), .slice none 0 0, .slice none 0 0, .int .i64 0] 38)) w1.heap.size g n adj nb HG.out NN E Hsort.out hn ((Below.refl _ w1).alloc (Nat.le_refl _) _) (by simp) (by unfold World.cell?; rw [hnewb]; rfl) (by unfold World.cell?; rw [hnewb]; rfl) (by unfold World.cell?; rw [hnewb]; rfl) (by unfold World.cell?; rw [hnewb]; rfl) (fun j => by unfold World.frozen?; rw [hnewb]; simp))
  clear hnewb
  go_wp2_with (first | (go_at_call 9; refine HEl.out.mono ?_; rintro e w2 ⟨rfl, Ks, hCh, hB2⟩) | fail)
  go_ret2
  exact ⟨w1.heap.size, g, nb, Ks, rfl, HG.out.later hB2, NN, hCh, HB.out.trans (hB2.mono HB.out.size)⟩
end Go.Proofs.YbulkbmsFmt
