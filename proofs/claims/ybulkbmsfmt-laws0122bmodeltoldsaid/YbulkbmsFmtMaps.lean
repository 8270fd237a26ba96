/-
  MAPS WITH INT ELEMENTS AS PLAIN FUNCTIONS: 'MapIs w B m f n': block B is a map of at most m entries that holds f, n keys in all. α: what a key is to us; lit: the key as the model reads it.
-/
import Derived.Test.YbulkbmsFmtFrame
import Derived.WalkKit
import Derived.WalkSpells
import Derived.WalkLawsBesides
import Derived.Maps.OwnSet
namespace Go.Proofs.YbulkbmsFmt
open Go.RowKit Go.Maps


/-- Nothing but block b has turned. -/
structure Wrote (b : Nat) (w w' : World) : Prop where
  os : w'.os = w.os
  tape : w'.tape = w.tape
  output : w'.output = w.output
  size : w'.heap.size = w.heap.size
  block : ∀ k, k ≠ b → w'.heap[k]? = w.heap[k]?
theorem Wrote.refl (b : Nat) (w : World) : Wrote b w w := ⟨rfl, rfl, rfl, rfl, fun _ _ => rfl⟩
theorem Wrote.setCell {b : Nat} {w w' : World} (h : Wrote b w w') (i : Nat) (v : Value) : Wrote b w (w'.setCell ⟨b, i, none⟩ v) :=
  ⟨h.os, h.tape, h.output, by simpa using h.size, fun k hk => (Below.heap_setCell w' ⟨b, i, none⟩ v k hk).trans (h.block k hk)⟩
theorem Wrote.below {b : Nat} {w w' : World} (h : Wrote b w w') (B : Nat) (hB : B ≤ b) : Below B w w' :=
  ⟨h.os, h.tape, h.output, by rw [h.size]; exact Nat.le_refl _, fun k hk => h.block k (by omega)⟩
theorem Wrote.trans {b : Nat} {w w' w'' : World} (h : Wrote b w w') (k : Wrote b w' w'') : Wrote b w w'' :=
  ⟨k.os.trans h.os, k.tape.trans h.tape, k.output.trans h.output, k.size.trans h.size, fun j hj => (k.block j hj).trans (h.block j hj)⟩
theorem Wrote.cell {b : Nat} {w w' : World} (h : Wrote b w w') {a : Addr} (ha : a.block ≠ b) : w'.cell? a = w.cell? a := World.cell?_of_block (w := w) (h.block a.block ha)
theorem Wrote.frozen {b : Nat} {w w' : World} (h : Wrote b w w') {a : Addr} (ha : a.block ≠ b) : w'.frozen? a = w.frozen? a := World.frozen?_of_block (w := w) (h.block a.block ha)
theorem wrote_of_turned {b : Nat} {w w' : World} (h : w.mapTurned w' b) : Wrote b w w' := by
  obtain ⟨es, clock, es', clock', hb, rfl⟩ := h
  refine ⟨rfl, rfl, rfl, by simp [ChangeMaps.setBlock], fun k hk => ?_⟩
  exact ChangeMaps.heap_setBlock_other hb _ hk

section
variable {P : Program} {K E : TypeId} {α : Type} {lit : α → Lit}

def MapIs (P : Program) (K E : TypeId) (lit : α → Lit) (w : World) (B m : Nat) (f : α → Option Int) (n : Nat) : Prop :=
  ∃ D : DataW Unit, w.ownsMap P K (plainElem P E) B m D ∧ Maps.size D = n ∧ ∀ a, Maps.has D (lit a) = (f a).isSome ∧ D.atKey (lit a) (.lit (.int .i64 0)) = .lit (.int .i64 ((f a).getD 0))

theorem MapIs.made (w : World) (f : α → Option Int) (hf : ∀ a, f a = none) : MapIs P K E lit (w.alloc (.map #[] 0)) w.heap.size 0 f 0 :=
  ⟨.map [], World.ownsMap_made _ _ _ _, rfl, fun a => by rw [hf a]; exact ⟨rfl, rfl⟩⟩
theorem MapIs.lt {w : World} {B m n : Nat} {f : α → Option Int} (h : MapIs P K E lit w B m f n) : B < w.heap.size := h.choose_spec.1.lt
theorem MapIs.mono {w : World} {B m m' n : Nat} {f : α → Option Int} (h : MapIs P K E lit w B m f n) (hm : m ≤ m') : MapIs P K E lit w B m' f n := by
  obtain ⟨D, h1, h2, h3⟩ := h
  exact ⟨D, h1.mono hm, h2, h3⟩
theorem MapIs.block {w w' : World} {B m n : Nat} {f : α → Option Int} (h : MapIs P K E lit w B m f n) (hb : w'.heap[B]? = w.heap[B]?) : MapIs P K E lit w' B m f n := by
  obtain ⟨D, ⟨es, clock, r1, r2⟩, h2, h3⟩ := h
  exact ⟨D, ⟨es, clock, hb.trans r1, r2⟩, h2, h3⟩
theorem MapIs.other {w w' : World} {b B m n : Nat} {f : α → Option Int} (h : MapIs P K E lit w B m f n) (hw : Wrote b w w') (hne : B ≠ b) : MapIs P K E lit w' B m f n := h.block (hw.block B hne)
theorem MapIs.below {w w' : World} {b B m n : Nat} {f : α → Option Int} (h : MapIs P K E lit w B m f n) (hw : Below b w w') (hlt : B < b) : MapIs P K E lit w' B m f n := h.block (hw.block B hlt)
theorem MapIs.congr {w : World} {B m n : Nat} {f g : α → Option Int} (h : MapIs P K E lit w B m f n) (hg : ∀ a, g a = f a) : MapIs P K E lit w B m g n := by
  obtain ⟨D, h1, h2, h3⟩ := h
  exact ⟨D, h1, h2, fun a => by rw [hg a]; exact h3 a⟩

theorem MapIs.look {w : World} {B m n : Nat} {f : α → Option Int} (h : MapIs P K E lit w B m f n) (law : Keyed P K) {T : TypeId} (hT : P.underlying T = some (.map K E)) (hE : P.underlying E = some (.int .i64)) (hz : (zeroValue E).run P w = .ok (.int .i64 0) w) {v : Value} {a : α} (hk : keyOf P K v = some (lit a)) :
    (Instr.lookup T (.map (some B)) v false).run P w = .ok (.int .i64 ((f a).getD 0)) w := by
  obtain ⟨D, h1, h2, h3⟩ := h
  obtain ⟨c, hrun, hat, _⟩ := h1.lookup_int law hT hE hz hk
  rw [hrun]
  have e := (h3 a).2.symm.trans hat
  simp only [DataW.lit.injEq, Lit.int.injEq, true_and] at e
  rw [e]
theorem MapIs.look_ok {w : World} {B m n : Nat} {f : α → Option Int} (h : MapIs P K E lit w B m f n) (law : Keyed P K) {T : TypeId} (hT : P.underlying T = some (.map K E)) (hE : P.underlying E = some (.int .i64)) (hz : (zeroValue E).run P w = .ok (.int .i64 0) w) {v : Value} {a : α} (hk : keyOf P K v = some (lit a)) :
    (Instr.lookup T (.map (some B)) v true).run P w = .ok (.tuple #[.int .i64 ((f a).getD 0), .bool (f a).isSome]) w := by
  obtain ⟨D, h1, h2, h3⟩ := h
  obtain ⟨u, ps, hrun, hR⟩ := h1.look_ok law hT hz (plainElem_int (H := Unit) hE (by decide)) hk
  obtain ⟨c, rfl, hc, _⟩ := plainElem_int_inv hE hR
  rw [hrun, (h3 a).1]
  simp only [Prod.mk.injEq] at hc
  have e := (h3 a).2.symm.trans hc.1
  simp only [DataW.lit.injEq, Lit.int.injEq, true_and] at e
  rw [e]
theorem MapIs.len {w : World} {B m n : Nat} {f : α → Option Int} (h : MapIs P K E lit w B m f n) {T : TypeId} (hT : P.underlying T = some (.map K E)) (ty : TypeId) : (Builtin.len_ #[T] ty #[.map (some B)]).run P w = .ok (.int .i64 n) w := by
  obtain ⟨D, h1, h2, h3⟩ := h
  rw [h1.len hT ty, h2]
/-- 'm[k] = v'. -/
theorem MapIs.store {w : World} {B m n : Nat} {f g : α → Option Int} (h : MapIs P K E lit w B m f n) (law : Keyed P K) {T : TypeId} (hT : P.underlying T = some (.map K E)) (hE : P.underlying E = some (.int .i64)) (hm : m < maxLen) (inj : ∀ a b, lit a = lit b → a = b) {v : Value} {a : α} (hk : keyOf P K v = some (lit a)) {x : Int} (hx : (Lit.int .i64 x).wf = true)
    (hg1 : g a = some x) (hg2 : ∀ b, b ≠ a → g b = f b) :
    ∃ w', (Instr.mapUpdate T (.map (some B)) v (.int .i64 x)).run P w = .ok () w' ∧ MapIs P K E lit w' B (m + 1) g (if (f a).isSome then n else n + 1) ∧ Wrote B w w' := by
  obtain ⟨D, h1, h2, h3⟩ := h
  obtain ⟨w', hrun, hown, hturn⟩ := h1.store law hT hm hk (plainElem_int hE hx)
  have hkl : WideAt.IsKeyLit (lit a) := law.key hk
  refine ⟨w', hrun, ⟨_, hown, ?_, fun b => ?_⟩, wrote_of_turned hturn⟩
  · rw [Maps.size_put (h1.tidy law), (h3 a).1, h2]
  · by_cases e : b = a
    · subst e
      rw [hg1]
      exact ⟨Maps.has_put_same h1.isMap hkl _, Maps.atKey_put_same h1.isMap hkl _ _⟩
    · rw [hg2 b e, Maps.has_put_other (fun e' => e (inj _ _ e')), Maps.atKey_put_other (fun e' => e (inj _ _ e'))]
      exact h3 b
/-- 'delete(m, k)'. -/
theorem MapIs.drop {w : World} {B m n : Nat} {f g : α → Option Int} (h : MapIs P K E lit w B m f n) (law : Keyed P K) {T : TypeId} (hT : P.underlying T = some (.map K E)) (inj : ∀ a b, lit a = lit b → a = b) {v : Value} {a : α} (hk : keyOf P K v = some (lit a))
    (hg1 : g a = none) (hg2 : ∀ b, b ≠ a → g b = f b) :
    ∃ w', (∀ ty, (Builtin.delete_ #[T, K] ty #[.map (some B), v]).run P w = .ok (.tuple #[]) w') ∧ MapIs P K E lit w' B m g (n - (if (f a).isSome then 1 else 0)) ∧ Wrote B w w' := by
  obtain ⟨D, h1, h2, h3⟩ := h
  obtain ⟨w', hrun, hown, hturn⟩ := h1.drop law hT hk 0
  refine ⟨w', fun ty => hrun, ⟨_, hown, ?_, fun b => ?_⟩, wrote_of_turned hturn⟩
  · have := Maps.size_del (k := lit a) (h1.tidy law)
    rw [(h3 a).1, h2] at this
    omega
  · by_cases e : b = a
    · subst e
      rw [hg1]
      exact ⟨Maps.has_del_same, Maps.atKey_del_same _⟩
    · rw [hg2 b e, Maps.has_del_other (fun e' => e (inj _ _ e')), Maps.atKey_del_other (fun e' => e (inj _ _ e'))]
      exact h3 b
end
end Go.Proofs.YbulkbmsFmt
