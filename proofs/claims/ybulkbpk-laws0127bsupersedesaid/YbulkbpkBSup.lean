import Derived.Test.YbulkbpkBWalks
namespace Go.Proofs.Ybulkbpk
open Go.RowKit Go.Maps PB

/-- A Log lies at block B; what it counts. -/
structure IsLog (w : World) (B : Nat) (lv dd : Int) : Prop where
  c12 : w.cell? ⟨B, 12, none⟩ = some (.int .i64 lv)
  c13 : w.cell? ⟨B, 13, none⟩ = some (.int .i64 dd)
  f12 : w.frozen? ⟨B, 12, none⟩ = false
  f13 : w.frozen? ⟨B, 13, none⟩ = false
  lt : B < w.heap.size
theorem IsLog.other {w w' : World} {B b : Nat} {lv dd : Int} (h : IsLog w B lv dd) (hw : Wrote b w w') (hne : B ≠ b) : IsLog w' B lv dd :=
  ⟨(hw.cell hne).trans h.c12, (hw.cell hne).trans h.c13, (hw.frozen hne).trans h.f12, (hw.frozen hne).trans h.f13, by rw [hw.size]; exact h.lt⟩
theorem IsLog.below {w w' : World} {B b : Nat} {lv dd : Int} (h : IsLog w B lv dd) (hw : Below b w w') (hlt : B < b) : IsLog w' B lv dd :=
  ⟨(hw.cell (p := ⟨B, 12, none⟩) hlt).trans h.c12, (hw.cell (p := ⟨B, 13, none⟩) hlt).trans h.c13, (hw.frozen (p := ⟨B, 12, none⟩) hlt).trans h.f12, (hw.frozen (p := ⟨B, 13, none⟩) hlt).trans h.f13, by have := hw.size; have := h.lt; omega⟩
theorem IsLog.set {w : World} {B : Nat} {lv dd : Int} (h : IsLog w B lv dd) (x y : Int) : IsLog ((w.setCell ⟨B, 12, none⟩ (.int .i64 x)).setCell ⟨B, 13, none⟩ (.int .i64 y)) B x y :=
  ⟨(World.cell?_setCell_other _ _ _ _ (by simp)).trans (World.cell?_setCell_same _ _ _ h.c12), World.cell?_setCell_same _ _ _ ((World.cell?_setCell_other _ _ _ _ (by simp)).trans h.c13), by simpa using h.f12, by simpa using h.f13, by simpa using h.lt⟩

set_option maxHeartbeats 400000 in
theorem newLog_any (s : ByteArray) (w : World) :
    Calls Yba.prog 6 #[.string s] w fun e w' => ∃ B, e = .returned (.pointer (some ⟨B, 0, none⟩)) ∧ IsLog w' B 0 0 ∧ w.heap.size ≤ B ∧ Below w.heap.size w w' := by
  have hmm := @run_makeMap Yba.prog
  go_enter Yba.func6, Yba.ntmps6
  go_wp2
  go_ret
  refine ⟨w.heap.size + 1 + 1 + 1 + 1, rfl, ⟨?_, ?_, ?_, ?_, by simp⟩, by omega, ?_⟩
  · go_simp
  · go_simp
  · go_simp
  · go_simp
  · exact ((((((Below.refl _ _).alloc (Nat.le_refl _) _).alloc (by simp) _).alloc (by simp; omega) _).alloc (by simp; omega) _).alloc (by simp; omega) _)

theorem law9 : Keyed Yba.prog 9 := string_keyed Yba.underlying9
theorem zero3 (w : World) : (zeroValue 3).run Yba.prog w = .ok (.int .i64 0) w := by kernel_rfl
def litS (s : ByteArray) : Lit := .string s.data.toList
theorem litS_inj (a b : ByteArray) (h : litS a = litS b) : a = b := by
  unfold litS at h
  injection h with h
  exact WideShapes.bytes_inj h
theorem keyS {s : ByteArray} (h : s.size ≤ maxLen) : keyOf Yba.prog 9 (.string s) = some (litS s) := WideMaps.keyOf_string_mk Yba.underlying9 h
abbrev MapS (w : World) (B m : Nat) (f : ByteArray → Option Int) (n : Nat) : Prop := MapIs Yba.prog 9 3 litS w B m f n

set_option maxHeartbeats 400000 in
theorem sup_any (B M m n : Nat) (f : ByteArray → Option Int) (s : ByteArray) (sz lv dd : Int) (w : World) (hm : m < maxLen) (hs : s.size ≤ maxLen) (hsz : (Lit.int .i64 sz).wf = true) (hne : B ≠ M) (hL : IsLog w B lv dd) (hM : MapS w M m f n) :
    Calls Yba.prog 8 #[.pointer (some ⟨B, 0, none⟩), .map (some M), .string s, .int .i64 sz] w fun e w' => e = .returned (.tuple #[]) ∧
      IsLog w' B (wrap64 (lv + wrap64 (sz - (f s).getD 0))) (wrap64 (dd + (f s).getD 0)) ∧ MapS w' M (m + 1) (sup f s sz) (supN f n s sz) ∧ w'.heap.size = w.heap.size ∧ ∀ b, b ≤ B → b ≤ M → Below b w w' := by
  have hlk := hM.look law9 Yba.underlying32 Yba.underlying3 (zero3 w) (keyS hs)
  generalize hold : (f s).getD 0 = old at *
  have HO := hide hold
  clear hold
  have hL2 := hL.set (wrap64 (lv + wrap64 (sz - old))) (wrap64 (dd + old))
  have hW2 : Wrote B w ((w.setCell ⟨B, 12, none⟩ (.int .i64 (wrap64 (lv + wrap64 (sz - old))))).setCell ⟨B, 13, none⟩ (.int .i64 (wrap64 (dd + old)))) := ((Wrote.refl B w).setCell _ _).setCell _ _
  have hM2 := hM.other hW2 (Ne.symm hne)
  obtain ⟨c12, c13, f12, f13, lt⟩ := hL
  by_cases hp : 0 < sz
  · obtain ⟨w3, hup, hM3, hW3⟩ := hM2.store (g := sup f s sz) law9 Yba.underlying32 Yba.underlying3 hm litS_inj (keyS hs) hsz (by simp [sup, hp]) (fun b hb => by simp [sup, hb])
    have HL3 := hide (hL2.other hW3 hne)
    have HM3 := hide hM3
    have HW2 := hide hW2
    have HW3 := hide hW3
    clear hL2 hW2 hM2 hM3 hW3 hM
    go_enter Yba.func8, Yba.ntmps8
    go_wp2
    go_end0
    refine ⟨rfl, HL3.out, ?_, by rw [HW3.out.size, HW2.out.size], fun b h1 h2 => (HW2.out.below b h1).trans (HW3.out.below b h2)⟩
    have := HM3.out
    unfold supN; rw [if_pos hp]; exact this
  · obtain ⟨w3, hup, hM3, hW3⟩ := hM2.drop (g := sup f s sz) law9 Yba.underlying32 litS_inj (keyS hs) (by simp [sup, hp]) (fun b hb => by simp [sup, hb])
    have HL3 := hide (hL2.other hW3 hne)
    have HM3 := hide hM3
    have HW2 := hide hW2
    have HW3 := hide hW3
    clear hL2 hW2 hM2 hM3 hW3 hM
    go_enter Yba.func8, Yba.ntmps8
    go_wp2
    go_end0
    refine ⟨rfl, HL3.out, ?_, by rw [HW3.out.size, HW2.out.size], fun b h1 h2 => (HW2.out.below b h1).trans (HW3.out.below b h2)⟩
    have := HM3.out.mono (Nat.le_succ _)
    unfold supN; rw [if_neg (by omega)]; exact this
end Go.Proofs.Ybulkbpk
