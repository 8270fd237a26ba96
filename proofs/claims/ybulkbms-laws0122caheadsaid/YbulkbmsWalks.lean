import Derived.Test.YbulkbmsRows
import Derived.WalkKit
import Derived.WalkSpells
import Derived.WalkLawsBesides
namespace Go.Proofs.Ybulkbms
open Go.RowKit

/-- A party as 'zzs0122cparty' makes it lies at block B: the fields that Wake reads. -/
structure IsParty (w : World) (B B1 B2 : Nat) (dl nw : Int) (s0 s1 dn : Bool) : Prop where
  c3 : w.cell? ⟨B, 3, none⟩ = some (.int .i64 dl)
  c8 : w.cell? ⟨B, 8, none⟩ = some (.int .i64 nw)
  c9 : w.cell? ⟨B, 9, none⟩ = some (.pointer (some ⟨B1, 0, none⟩))
  c10 : w.cell? ⟨B, 10, none⟩ = some (.pointer (some ⟨B2, 0, none⟩))
  c15 : w.cell? ⟨B, 15, none⟩ = some (.bool s0)
  c16 : w.cell? ⟨B, 16, none⟩ = some (.bool s1)
  c18 : w.cell? ⟨B, 18, none⟩ = some (.bool dn)
  g1 : w.cell? ⟨B1, 4, none⟩ = some (.slice none 0 0)
  g2 : w.cell? ⟨B2, 4, none⟩ = some (.slice none 0 0)
  l0 : B < w.heap.size
  l1 : B1 < w.heap.size
  l2 : B2 < w.heap.size

set_option maxHeartbeats 400000 in
theorem party_any (dl nw : Int) (s0 s1 dn : Bool) (w : World) :
    Calls Yba.prog 5 #[.int .i64 dl, .int .i64 nw, .bool s0, .bool s1, .bool dn] w fun e w' => ∃ B B1 B2, e = .returned (.pointer (some ⟨B, 0, none⟩)) ∧ IsParty w' B B1 B2 dl nw s0 s1 dn ∧ Below w.heap.size w w' := by
  go_enter Yba.func5, Yba.ntmps5
  go_wp2
  go_ret
  refine ⟨w.heap.size + 1 + 1, w.heap.size, w.heap.size + 1, rfl, ?_, ?_⟩
  · constructor <;> first | go_simp | (simp; omega)
  · exact ((((Below.refl _ _).alloc (Nat.le_refl _) _).alloc (by simp) _).alloc (by simp; omega) _)

set_option maxHeartbeats 400000 in
theorem group1_any (B : Nat) (w : World) (h : w.cell? ⟨B, 4, none⟩ = some (.slice none 0 0)) :
    Calls Yba.prog 7 #[.pointer (some ⟨B, 0, none⟩)] w fun e w' => e = .returned (.tuple #[.int .i64 0, .bool false]) ∧ w = w' := by
  go_enter Yba.func7, Yba.ntmps7
  go_wp2
  refine wp_loop_rounds 1 ?_; rw [rounds_succ]; go_wp2
  go_ret2
  exact ⟨rfl, rfl⟩

set_option maxHeartbeats 400000 in
theorem group2_any (B : Nat) (w : World) (h : w.cell? ⟨B, 4, none⟩ = some (.slice none 0 0)) :
    Calls Yba.prog 9 #[.pointer (some ⟨B, 0, none⟩)] w fun e w' => e = .returned (.tuple #[.int .i64 0, .bool false]) ∧ w = w' := by
  go_enter Yba.func9, Yba.ntmps9
  go_wp2
  refine wp_loop_rounds 1 ?_; rw [rounds_succ]; go_wp2
  go_ret2
  exact ⟨rfl, rfl⟩

end Go.Proofs.Ybulkbms
