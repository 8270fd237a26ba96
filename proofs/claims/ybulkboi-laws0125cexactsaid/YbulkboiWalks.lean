import Derived.Test.YbulkboiRows
import Derived.Test.YbulkboiPlain
import Derived.WalkKit
import Derived.WalkSpells
import Derived.WalkLawsBesides
import Derived.Laws.Externs
import Derived.Deep.OwnRows
namespace Go.Proofs.Ybulkboi
open Go.RowKit Pl

theorem hide {p : Prop} (h : p) : Hid p := h

/-! ### memory -/
/-- A row of n words lies at the head of block b, and may be written. -/
structure Row (w : World) (b n : Nat) (f : Nat → Int) : Prop where
  cell : ∀ i, i < n → w.cell? ⟨b, i, none⟩ = some (.int .u64 (f i))
  free : ∀ i, i < n → w.frozen? ⟨b, i, none⟩ = false
  lt : b < w.heap.size
/-- Nothing but block b has turned. -/
structure Wrote (b : Nat) (w w' : World) : Prop where
  os : w'.os = w.os
  tape : w'.tape = w.tape
  output : w'.output = w.output
  size : w'.heap.size = w.heap.size
  block : ∀ k, k ≠ b → w'.heap[k]? = w.heap[k]?
theorem Wrote.refl (b : Nat) (w : World) : Wrote b w w := ⟨rfl, rfl, rfl, rfl, fun _ _ => rfl⟩
theorem Wrote.setCell {b : Nat} {w w' : World} (h : Wrote b w w') (i : Nat) (v : Value) : Wrote b w (w'.setCell ⟨b, i, none⟩ v) :=
  ⟨h.os, h.tape, h.output, by simpa using h.size, fun k hk => (Below.heap_setCell w' ⟨b, i, none⟩ v k hk).trans (h.block k hk)⟩
theorem Wrote.drewN {b : Nat} {w w' : World} (h : Wrote b w w') (n : Nat) : Wrote b w (w'.drewN n) := ⟨h.os, h.tape, h.output, h.size, h.block⟩
theorem Wrote.below {b : Nat} {w w' : World} (h : Wrote b w w') (B : Nat) (hB : B ≤ b) : Below B w w' :=
  ⟨h.os, h.tape, h.output, by rw [h.size]; exact Nat.le_refl _, fun k hk => h.block k (by omega)⟩
theorem Wrote.trans {b : Nat} {w w' w'' : World} (h : Wrote b w w') (k : Wrote b w' w'') : Wrote b w w'' :=
  ⟨k.os.trans h.os, k.tape.trans h.tape, k.output.trans h.output, k.size.trans h.size, fun j hj => (k.block j hj).trans (h.block j hj)⟩
theorem Row.other {b c n : Nat} {f : Nat → Int} {w w' : World} (h : Row w c n f) (k : Wrote b w w') (hne : c ≠ b) : Row w' c n f :=
  ⟨fun i hi => (World.cell?_of_block (w := w) (k.block c hne)).trans (h.cell i hi), fun i hi => (World.frozen?_of_block (w := w) (k.block c hne)).trans (h.free i hi), by rw [k.size]; exact h.lt⟩
theorem Row.below {c n B : Nat} {f : Nat → Int} {w w' : World} (h : Row w c n f) (k : Below B w w') (hc : c < B) : Row w' c n f :=
  ⟨fun i hi => (k.cell (p := ⟨c, i, none⟩) hc).trans (h.cell i hi), fun i hi => (k.frozen (p := ⟨c, i, none⟩) hc).trans (h.free i hi), by have := k.size; have := h.lt; omega⟩
theorem Row.set {b n : Nat} {f g : Nat → Int} {w : World} (h : Row w b n f) (k : Nat) (v : Int) (hg : ∀ i, i < n → g i = if i = k then v else f i) : Row (w.setCell ⟨b, k, none⟩ (.int .u64 v)) b n g := by
  refine ⟨fun i hi => ?_, fun i hi => by simpa using h.free i hi, by simpa using h.lt⟩
  rw [hg i hi]
  by_cases e : i = k
  · subst e; rw [if_pos rfl]; exact World.cell?_setCell_same _ _ _ (h.cell i hi)
  · rw [if_neg e, World.cell?_setCell_other _ _ _ _ (by intro e'; injection e' with _ h2 _; exact e h2.symm)]; exact h.cell i hi
theorem Row.congr {b n : Nat} {f g : Nat → Int} {w : World} (h : Row w b n f) (hg : ∀ i, i < n → g i = f i) : Row w b n g :=
  ⟨fun i hi => by rw [hg i hi]; exact h.cell i hi, h.free, h.lt⟩

theorem Row.made (w : World) (n : Nat) (f : Nat → Int) (hf : ∀ i, i < n → f i = 0) : Row (w.alloc (.cells (madeCells #[.int .u64 0] n) 28)) w.heap.size n f :=
  have h := World.rowIs_made w (.int .u64 0) n 28
  ⟨fun i hi => by rw [hf i hi]; exact h.cell hi, fun i hi => h.frozen i, by simp⟩

/-! ### math/bits.Add -/
theorem add64 (x y c : Int) (hx : 0 ≤ x) (hy : 0 ≤ y) (hc0 : 0 ≤ c) (hc : c ≤ 1) (w : World) : (callFunc 12 #[.int .u64 x, .int .u64 y, .int .u64 c]).run Yba.prog w =
    .ok (.value (.tuple #[.int .u64 (lo x y c), .int .u64 (hi x y c)])) w := by
  rw [run_callFunc_extern Yba.func12 (by kernel_rfl) (by kernel_rfl) (by kernel_rfl) (e := add64Entry) (by kernel_rfl), run_add64 x y c hx hy hc0 hc]
  rfl

set_option maxHeartbeats 400000 in
theorem add_any (x y c : Int) (hx : Wd x) (hy : Wd y) (hc : c = 0 ∨ c = 1) (w : World) :
    Calls Yba.prog 10 #[.int .u64 x, .int .u64 y, .int .u64 c] w fun e w' => e = .returned (.tuple #[.int .u64 (lo x y c), .int .u64 (hi x y c)]) ∧ w = w' := by
  have h := add64 x y c hx.1 hy.1 (by omega) (by omega)
  clear hx hy hc
  go_enter Yba.func10, Yba.ntmps10
  go_wp2_with (simp only [h])
  go_ret2
  exact ⟨rfl, rfl⟩

/-! ### zzs0125cprep -/
theorem Yba.info28 : (Yba.prog.info? 28).map (fun i => (i.zero, i.size, i.bytes)) = some (some (.int .u64 0), 1, 8) := by kernel_rfl
/-- What the caller knows of a slice that came in: its first n words are f. -/
def Src (w : World) (a : Option Addr) (n : Nat) (f : Nat → Int) : Prop := ∀ i, i < n → ∃ x, a = some x ∧ w.cell? (x.add i) = some (.int .u64 (f i)) ∧ x.block < w.heap.size
/-- The word, or, where b says so, each of its bits turned (as the model has '^w'). -/
def flp (b : Bool) (x : Int) : Int := if b then bits BinOp.xor IntKind.u64 (if IntKind.u64.signed = true then -1 else IntKind.u64.max) x else x

theorem prep_step (n k : Nat) (f : Nat → Int) {v : Int} (hv : v = f k) (i : Nat) (_ : i < n) : (if i < k + 1 then f i else 0) = if i = k then v else if i < k then f i else 0 := by
  by_cases e : i = k
  · subst e; rw [if_pos (by omega), if_pos rfl, hv]
  · rw [if_neg e]; by_cases e' : i < k
    · rw [if_pos (by omega), if_pos e']
    · rw [if_neg (by omega), if_neg e']

set_option maxHeartbeats 400000 in
theorem prep_any (a : Option Addr) (len cap n : Nat) (f : Nat → Int) (b : Bool) (w : World) (hn : n ≤ len) (hn2 : n ≤ 1024) (hs : Src w a n f) :
    Calls Yba.prog 5 #[.slice a len cap, .int .i64 n, .bool b] w fun e w' => e = .returned (.slice (some ⟨w.heap.size, 0, none⟩) n n) ∧ Row w' w.heap.size n (fun i => flp b (f i)) ∧ w'.heap.size = w.heap.size + 1 ∧ Below w.heap.size w w' := by
  have hmk := run_make_row' (P := Yba.prog) 22 28 (.int .u64 0) 8 Yba.underlying22 Yba.info28 rfl .i64 .i64 n (by omega) (by omega)
  go_enter Yba.func5, Yba.ntmps5
  go_wp2_with fail
  clear hmk
  go_loopw [8] (fun i wr => ∃ k : Nat, k ≤ n ∧ i = .int .i64 k ∧ Row wr w.heap.size n (fun i => if i < k then flp b (f i) else 0) ∧ wr.heap.size = w.heap.size + 1 ∧ Below w.heap.size w wr) (fun i _ => n - (intOf i).toNat)
  case atStart => exact ⟨0, Nat.zero_le _, rfl, Row.made _ _ _ (fun i hi => rfl), by simp, (Below.refl _ _).alloc (Nat.le_refl _) _⟩
  case round =>
    obtain ⟨k, hk, rfl, hR, hz, hb⟩ := hrel
    by_cases hlt : k < n
    · obtain ⟨x, rfl, hx, hxb⟩ := hs k hlt
      have hx' := cell_later hb hx
      have hc := hR.cell k hlt
      have hfr := hR.free k hlt
      have HR := hide hR
      clear hx hR hs
      cases b
      · go_wp2_with fail
        go_roundw
        case rel => exact ⟨k + 1, by omega, by go_num, HR.out.set k _ (prep_step _ _ _ rfl), by simpa using hz, hb.setCell (Nat.le_refl _) _⟩
        case measure => simp [intOf]; omega
      · go_wp2_with fail
        go_roundw
        case rel => exact ⟨k + 1, by omega, by go_num, HR.out.set k _ (prep_step _ _ _ rfl), by simpa using hz, hb.setCell (Nat.le_refl _) _⟩
        case measure => simp [intOf]; omega
    · have hkn : k = n := by omega
      subst hkn
      go_wp2_with fail
      go_ret
      exact ⟨rfl, hR.congr (fun i hi => (if_pos hi).symm), hz, hb⟩
end Go.Proofs.Ybulkboi
