import Derived.Test.YbulkbpkCStore
namespace Go.Proofs.Ybulkbpk
open Go.RowKit Go.Maps

/-- 'make([]sumEntry, n)': n * 41 cells that may be written. -/
theorem make_ents (n : Nat) (hn : n ≤ 1024) (w : World) : ∃ C : Array Value, C.size = n * 41 ∧ (Instr.makeSlice 62 (.int .i64 n) (.int .i64 n)).run Yba.prog w = .ok (.slice (some ⟨w.heap.size, 0, none⟩) n n) (w.alloc (.cells C 68)) := by
  obtain ⟨i, hi, hzz⟩ := Option.map_eq_some_iff.1 Yba.info68
  simp only [Prod.mk.injEq] at hzz
  obtain ⟨hz, hs, hb⟩ := hzz
  obtain ⟨z, hz', _⟩ := Option.map_eq_some_iff.1 hz
  refine ⟨madeCells z.cells (n * 41), by rw [size_madeCells], ?_⟩
  have := run_make (P := Yba.prog) w 62 68 i z Yba.underlying62 hi hz' .i64 .i64 n n (by omega) (Int.le_refl _) (by rw [hb]; omega) (by omega)
  rw [hs, Int.toNat_natCast] at this
  exact this

theorem al {w : World} {a : Addr} {v : Value} (h : w.cell? a = some v) (o : Obj) : (w.alloc o).cell? a = some v := cell_later (below_al (Below.refl _ _) o) h
theorem there_later {w w' : World} {b o n : Nat} (hb : Below w.heap.size w w') (h : w.there b o n) : w'.there b o n := fun j hj => by
  obtain ⟨h1, h2⟩ := h j hj
  obtain ⟨u, hu⟩ := Option.isSome_iff_exists.1 h1
  have hlt := World.block_lt_of_cell? w _ hu
  exact ⟨by rw [hb.cell (p := ⟨b, o + j, none⟩) hlt]; exact h1, by rw [hb.frozen (p := ⟨b, o + j, none⟩) hlt]; exact h2⟩
theorem there_sub {w : World} {b n m : Nat} (h : w.there b 0 n) (o : Nat) (hm : o + m ≤ n) : w.there b o m := fun j hj => by
  have := h (o + j) (by omega)
  rwa [Nat.zero_add] at this

theorem sum_lit (b : Int) (w : World) :
    Calls Yba.prog 12 #[.int .u8 b] w fun e w' => e = .returned (.agg #[.int .u8 b, .int .u8 0, .int .u8 0, .int .u8 0, .int .u8 0, .int .u8 0, .int .u8 0, .int .u8 0, .int .u8 0, .int .u8 0, .int .u8 0, .int .u8 0, .int .u8 0, .int .u8 0, .int .u8 0, .int .u8 0, .int .u8 0, .int .u8 0, .int .u8 0, .int .u8 0, .int .u8 0, .int .u8 0, .int .u8 0, .int .u8 0, .int .u8 0, .int .u8 0, .int .u8 0, .int .u8 0, .int .u8 0, .int .u8 0, .int .u8 0, .int .u8 ((b + 1) % 256)]) ∧ Below w.heap.size w w' := sum_any b w

/-- A SumCache lies at block B: its entries at block H, its map. -/
structure IsCache (L : Int) (w : World) (B H n : Nat) (mp : Option Nat) : Prop where
  c0 : w.cell? ⟨B, 0, none⟩ = some (.int .i32 L)
  c1 : w.cell? ⟨B, 1, none⟩ = some (.int .u32 0)
  c2 : w.cell? ⟨B, 2, none⟩ = some (.slice (some ⟨H, 0, none⟩) n n)
  c3 : w.cell? ⟨B, 3, none⟩ = some (.map mp)
  f0 : w.frozen? ⟨B, 0, none⟩ = false
  f3 : w.frozen? ⟨B, 3, none⟩ = false
  lt : B < w.heap.size
  ltH : H < w.heap.size
theorem IsCache.block {L : Int} {w w' : World} {B H n : Nat} {mp : Option Nat} (h : IsCache L w B H n mp) (hb : w'.heap[B]? = w.heap[B]?) (hs : w.heap.size ≤ w'.heap.size) : IsCache L w' B H n mp :=
  ⟨(World.cell?_of_block (w := w) hb).trans h.c0, (World.cell?_of_block (w := w) hb).trans h.c1, (World.cell?_of_block (w := w) hb).trans h.c2, (World.cell?_of_block (w := w) hb).trans h.c3,
    (World.frozen?_of_block (w := w) hb).trans h.f0, (World.frozen?_of_block (w := w) hb).trans h.f3, by have := h.lt; omega, by have := h.ltH; omega⟩
theorem IsCache.below {L : Int} {w w' : World} {B H n b : Nat} {mp : Option Nat} (h : IsCache L w B H n mp) (hb : Below b w w') (hlt : B < b) : IsCache L w' B H n mp := h.block (hb.block B hlt) hb.size

/-- The round's end. -/
theorem build_step {w wr w' : World} {n k : Nat} {E : Nat → Ent} (hk : k < n) (hB : Below w.heap.size w wr) (hT : wr.there w.heap.size 0 (n * 41)) (hSE : ∀ j, j < k → SE wr w.heap.size j (E j) (E j).pl (E j).us (E j).gn) (hb : Below wr.heap.size wr w') :
    w.heap.size < (w'.setCells w.heap.size (k * 41) (entL k (E k) (E k).pl (E k).us (E k).gn)).heap.size ∧ Below w.heap.size w (w'.setCells w.heap.size (k * 41) (entL k (E k) (E k).pl (E k).us (E k).gn)) ∧ (w'.setCells w.heap.size (k * 41) (entL k (E k) (E k).pl (E k).us (E k).gn)).there w.heap.size 0 (n * 41) ∧
      ∀ j, j < k + 1 → SE (w'.setCells w.heap.size (k * 41) (entL k (E k) (E k).pl (E k).us (E k).gn)) w.heap.size j (E j) (E j).pl (E j).us (E j).gn := by
  have hT' := there_later hb hT
  have hlt : w.heap.size < wr.heap.size := by
    obtain ⟨u, hu⟩ := Option.isSome_iff_exists.1 (hT 0 (by omega)).1
    exact World.block_lt_of_cell? wr _ hu
  refine ⟨by rw [size_setCells]; have := hb.size; omega, below_setCells (hB.trans (hb.mono (by omega))) (Nat.le_refl _) _ _, World.there_setCells hT' _ _ _, fun j hj => ?_⟩
  by_cases e : j = k
  · subst e; exact SE.stored _ _ _ _ (there_sub hT' (j * 41) (by omega))
  · exact ((hSE j (by omega)).below hb hlt).setCellsOther (Ne.symm e) _ rfl
theorem below2 {w a b : World} (h1 : Below w.heap.size w a) (h2 : Below a.heap.size a b) : Below w.heap.size w b := h1.trans (h2.mono h1.size)
theorem drw {w : World} {a : Addr} {v : Value} (h : w.cell? a = some v) : w.drew.cell? a = some v := h
theorem thd {w : World} {b o n : Nat} (h : w.there b o n) : w.drew.there b o n := h
theorem far {w : World} {b o b' i : Nat} {cs : List Value} {v : Value} (hne : b' ≠ b) (h : w.cell? ⟨b', i, none⟩ = some v) : (w.setCells b o cs).cell? ⟨b', i, none⟩ = some v :=
  (World.cell?_setCells_out b cs o w ⟨b', i, none⟩ (fun e => absurd e hne)).trans h

set_option maxRecDepth 100000 in
set_option maxHeartbeats 4000000 in
theorem build_any (a : Option Addr) (n c : Nat) (E : Nat → Ent) (w : World) (hn : n ≤ 1024) (hS : SrcE w a n E) (hE : ∀ i, (E i).Ok) :
    Calls Yba.prog 9 #[.slice a n c] w fun e w' => ∃ B H, e = .returned (.pointer (some ⟨B, 0, none⟩)) ∧ IsCache 0 w' B H n none ∧ (∀ j, j < n → SE w' H j (E j) (E j).pl (E j).us (E j).gn) ∧ w.heap.size ≤ H ∧ H < B ∧ Below w.heap.size w w' := by
  have HS := hide hS
  have HE := hide hE
  obtain ⟨C, hC, hmk⟩ := make_ents n hn w
  have HC := hide hC
  clear hS hE hC
  go_enter Yba.func9, Yba.ntmps9
  go_wp2_with fail
  clear hmk
  go_loopw [11] (fun i wr => ∃ k : Nat, k ≤ n ∧ i = .int .i64 k ∧ Hid (w.heap.size < wr.heap.size) ∧ Hid (Below w.heap.size w wr) ∧ Hid (wr.there w.heap.size 0 (n * 41)) ∧ Hid (∀ j, j < k → SE wr w.heap.size j (E j) (E j).pl (E j).us (E j).gn)) (fun i _ => n - (intOf i).toNat)
  case atStart => exact ⟨0, Nat.zero_le _, rfl, by simp [Hid], (Below.refl _ _).alloc (Nat.le_refl _) _, HC.out ▸ there_new w C 68, fun j hj => by omega⟩
  case round =>
    obtain ⟨k, hk, rfl, HW, HB, HT, HSE⟩ := hrel
    by_cases hlt : k < n
    · obtain ⟨b, o, rfl, he, hbl⟩ := (HS.out.later HB.out) k hlt
      obtain ⟨c0, c1, c2, c3, c4, c5, c6, c7⟩ := he
      have hl0 : (0 : Int) ≤ (k : Int) := by omega
      have hl1 : (k : Int) < (n : Int) := by omega
      have HO := hide (HE.out k)
      have hp0 : -128 ≤ (E k).pl := (HE.out k).pl.1
      have hp1 : (E k).pl ≤ 127 := (HE.out k).pl.2
      go_wp2_with fail
      have HT' := there_sub HT.out (k * 41) (m := 41) (by omega)
      have hwlt := HW.out
      have hne1 : wr.heap.size ≠ w.heap.size := by omega
      have ht1 := World.there_alloc HT' (Obj.cells #[Value.int IntKind.u8 (E k).dv, Value.int IntKind.u8 (E k).io, Value.int IntKind.u8 (E k).sz, Value.int IntKind.u8 (E k).mt, Value.int IntKind.u8 (E k).sm, Value.bool (E k).gn, Value.bool (E k).us, Value.int IntKind.i8 (E k).pl] 50)
      have g0 : (wr.alloc (Obj.cells #[Value.int IntKind.u8 (E k).dv, Value.int IntKind.u8 (E k).io, Value.int IntKind.u8 (E k).sz, Value.int IntKind.u8 (E k).mt, Value.int IntKind.u8 (E k).sm, Value.bool (E k).gn, Value.bool (E k).us, Value.int IntKind.i8 (E k).pl] 50)).cell? ⟨wr.heap.size, 0, none⟩ = some (.int .u8 (E k).dv) := by go_simp
      have g1 : (wr.alloc (Obj.cells #[Value.int IntKind.u8 (E k).dv, Value.int IntKind.u8 (E k).io, Value.int IntKind.u8 (E k).sz, Value.int IntKind.u8 (E k).mt, Value.int IntKind.u8 (E k).sm, Value.bool (E k).gn, Value.bool (E k).us, Value.int IntKind.i8 (E k).pl] 50)).cell? ⟨wr.heap.size, 1, none⟩ = some (.int .u8 (E k).io) := by go_simp
      have g2 : (wr.alloc (Obj.cells #[Value.int IntKind.u8 (E k).dv, Value.int IntKind.u8 (E k).io, Value.int IntKind.u8 (E k).sz, Value.int IntKind.u8 (E k).mt, Value.int IntKind.u8 (E k).sm, Value.bool (E k).gn, Value.bool (E k).us, Value.int IntKind.i8 (E k).pl] 50)).cell? ⟨wr.heap.size, 2, none⟩ = some (.int .u8 (E k).sz) := by go_simp
      have g3 : (wr.alloc (Obj.cells #[Value.int IntKind.u8 (E k).dv, Value.int IntKind.u8 (E k).io, Value.int IntKind.u8 (E k).sz, Value.int IntKind.u8 (E k).mt, Value.int IntKind.u8 (E k).sm, Value.bool (E k).gn, Value.bool (E k).us, Value.int IntKind.i8 (E k).pl] 50)).cell? ⟨wr.heap.size, 3, none⟩ = some (.int .u8 (E k).mt) := by go_simp
      have g4 : (wr.alloc (Obj.cells #[Value.int IntKind.u8 (E k).dv, Value.int IntKind.u8 (E k).io, Value.int IntKind.u8 (E k).sz, Value.int IntKind.u8 (E k).mt, Value.int IntKind.u8 (E k).sm, Value.bool (E k).gn, Value.bool (E k).us, Value.int IntKind.i8 (E k).pl] 50)).cell? ⟨wr.heap.size, 4, none⟩ = some (.int .u8 (E k).sm) := by go_simp
      have g5 : (wr.alloc (Obj.cells #[Value.int IntKind.u8 (E k).dv, Value.int IntKind.u8 (E k).io, Value.int IntKind.u8 (E k).sz, Value.int IntKind.u8 (E k).mt, Value.int IntKind.u8 (E k).sm, Value.bool (E k).gn, Value.bool (E k).us, Value.int IntKind.i8 (E k).pl] 50)).cell? ⟨wr.heap.size, 5, none⟩ = some (.bool (E k).gn) := by go_simp
      have g6 : (wr.alloc (Obj.cells #[Value.int IntKind.u8 (E k).dv, Value.int IntKind.u8 (E k).io, Value.int IntKind.u8 (E k).sz, Value.int IntKind.u8 (E k).mt, Value.int IntKind.u8 (E k).sm, Value.bool (E k).gn, Value.bool (E k).us, Value.int IntKind.i8 (E k).pl] 50)).cell? ⟨wr.heap.size, 6, none⟩ = some (.bool (E k).us) := by go_simp
      have g7 : (wr.alloc (Obj.cells #[Value.int IntKind.u8 (E k).dv, Value.int IntKind.u8 (E k).io, Value.int IntKind.u8 (E k).sz, Value.int IntKind.u8 (E k).mt, Value.int IntKind.u8 (E k).sm, Value.bool (E k).gn, Value.bool (E k).us, Value.int IntKind.i8 (E k).pl] 50)).cell? ⟨wr.heap.size, 7, none⟩ = some (.int .i8 (E k).pl) := by go_simp
      have hrow := storeRow_eq
      have hrun := storeRow_run
      go_region_held3 (fun w' => w'.cell? ⟨wr.heap.size, 0, none⟩ = some (.int .u8 (E k).dv) ∧ w'.cell? ⟨wr.heap.size, 1, none⟩ = some (.int .u8 (E k).io) ∧ w'.cell? ⟨wr.heap.size, 2, none⟩ = some (.int .u8 (E k).sz) ∧ w'.cell? ⟨wr.heap.size, 3, none⟩ = some (.int .u8 (E k).mt)
         ∧ w'.cell? ⟨wr.heap.size, 4, none⟩ = some (.int .u8 (E k).sm) ∧ w'.cell? ⟨wr.heap.size, 5, none⟩ = some (.bool (E k).gn) ∧ w'.cell? ⟨wr.heap.size, 6, none⟩ = some (.bool (E k).us) ∧ w'.cell? ⟨wr.heap.size, 7, none⟩ = some (.int .i8 (E k).pl) ∧ w'.there w.heap.size (k * 41) 41)
        ((go_split_ands; (repeat' apply And.intro) <;> (with_reducible (repeat (first | assumption | refine drw ?_ | refine thd ?_ | refine al ?_ _ | refine World.there_alloc ?_ _ | refine cell_later (by assumption) ?_ | refine there_later (by assumption) ?_ | refine far (by assumption) ?_ | refine World.there_setCells ?_ _ _ _)))))
        (first
          | (go_at_call 10; refine (stat_any _ _ _ _ _ HO.out.dv HO.out.io HO.out.sz HO.out.mt).mono ?_; rintro e w' ⟨rfl, o1, rfl⟩)
          | (go_at_call 12; refine (sum_lit _ _).mono ?_; rintro e w' ⟨rfl, hbs⟩))
      have J := build_step hlt HB.out HT.out HSE.out (below2 (below_al (below_al (Below.refl _ _) _) _).drew hbs)
      have HJ := hide J
      clear J hrow hrun hbs g0 g1 g2 g3 g4 g5 g6 g7 ht1 HT' c0 c1 c2 c3 c4 c5 c6 c7
      go_wp2_with fail
      go_roundw
      case rel => exact ⟨k + 1, by omega, by go_num, HJ.out.1, HJ.out.2.1, HJ.out.2.2.1, HJ.out.2.2.2⟩
      case measure => simp [intOf]; omega
    · obtain rfl : k = n := by omega
      go_wp2_with fail
      go_ret
      have hwlt := HW.out
      refine ⟨wr.heap.size, w.heap.size, rfl, ⟨?_, ?_, ?_, ?_, ?_, ?_, by simp, by simp; omega⟩, fun j hj => (HSE.out j hj).below (below_al (Below.refl _ _) _) hwlt, Nat.le_refl _, hwlt, below_al HB.out _⟩ <;> go_simp
end Go.Proofs.Ybulkbpk
