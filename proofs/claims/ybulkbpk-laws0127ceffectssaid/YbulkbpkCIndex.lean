import Derived.Test.YbulkbpkCPlain
namespace Go.Proofs.Ybulkbpk
open Go.RowKit Go.Maps

/-- Of what was there, nothing but blocks H and B has turned. -/
structure But (H B : Nat) (w w' : World) : Prop where
  os : w'.os = w.os
  tape : w'.tape = w.tape
  output : w'.output = w.output
  size : w.heap.size ≤ w'.heap.size
  block : ∀ k, k < w.heap.size → k ≠ H → k ≠ B → w'.heap[k]? = w.heap[k]?
theorem But.refl (H B : Nat) (w : World) : But H B w w := ⟨rfl, rfl, rfl, Nat.le_refl _, fun _ _ _ _ => rfl⟩
theorem But.later {H B : Nat} {w x y : World} (h : But H B w x) (hb : Below x.heap.size x y) : But H B w y :=
  ⟨hb.os.trans h.os, hb.tape.trans h.tape, hb.output.trans h.output, Nat.le_trans h.size hb.size, fun k h1 h2 h3 => (hb.block k (by have := h.size; omega)).trans (h.block k h1 h2 h3)⟩
theorem But.wrote {H B b : Nat} {w x y : World} (h : But H B w x) (hb : Wrote b x y) (hw : b = H ∨ b = B ∨ w.heap.size ≤ b) : But H B w y :=
  ⟨hb.os.trans h.os, hb.tape.trans h.tape, hb.output.trans h.output, by rw [hb.size]; exact h.size, fun k h1 h2 h3 => (hb.block k (by omega)).trans (h.block k h1 h2 h3)⟩
theorem But.trans {H B : Nat} {w x y : World} (h : But H B w x) (k : But H B x y) : But H B w y :=
  ⟨k.os.trans h.os, k.tape.trans h.tape, k.output.trans h.output, Nat.le_trans h.size k.size, fun j h1 h2 h3 => (k.block j (by have := h.size; omega) h2 h3).trans (h.block j h1 h2 h3)⟩
theorem But.below {H B b : Nat} {w x : World} (h : But H B w x) (hb : b ≤ w.heap.size) (h1 : b ≤ H) (h2 : b ≤ B) : Below b w x :=
  ⟨h.os, h.tape, h.output, h.size, fun k hk => h.block k (by omega) (by omega) (by omega)⟩
theorem But.cell {H B b i : Nat} {w x : World} {v : Value} (h : But H B w x) (hc : w.cell? ⟨b, i, none⟩ = some v) (h1 : b ≠ H) (h2 : b ≠ B) : x.cell? ⟨b, i, none⟩ = some v :=
  (World.cell?_of_block (w := w) (h.block b (World.block_lt_of_cell? w _ hc) h1 h2)).trans hc
theorem wrote_set (b i : Nat) (w : World) (v : Value) : Wrote b w (w.setCell ⟨b, i, none⟩ v) := (Wrote.refl b w).setCell i v

/-- What stands behind the first k rounds of 'index'. -/
structure Idx (L : Int) (lit : Id → Lit) (w wr : World) (B H M n k : Nat) (E : Nat → Ent) : Prop where
  cache : IsCache L wr B H n (some M)
  map : ∃ q, MapIs Yba.prog 72 3 lit wr M k (atF E k) q
  ents : ∀ j, j < n → SE wr H j (E j) (E j).pl (E j).us (gsF E k j)
  bel : But H B w wr
  hHB : H < B
  hBM : B < M
  hM : w.heap.size ≤ M

theorem Idx.skip {L : Int} {lit : Id → Lit} {w wr : World} {B H M n k : Nat} {E : Nat → Ent} (h : Idx L lit w wr B H M n k E) (hg : (E k).gn = true) : Idx L lit w wr B H M n (k + 1) E := by
  obtain ⟨q, hq⟩ := h.map
  refine ⟨h.cache, ⟨q, ?_⟩, fun j hj => ?_, h.bel, h.hHB, h.hBM, h.hM⟩
  · rw [atF_gone E k hg]; exact hq.mono (Nat.le_succ _)
  · rw [gsF_gone E k hg]; exact h.ents j hj
theorem idx_start (L : Int) (lit : Id → Lit) (B H n : Nat) (E : Nat → Ent) (w : World) (hc : IsCache L w B H n none) (hE : ∀ j, j < n → SE w H j (E j) (E j).pl (E j).us (E j).gn) (hHB : H < B) :
    Idx L lit w ((w.setCell ⟨B, 3, none⟩ (.map (some w.heap.size))).alloc (.map #[] 0)) B H w.heap.size n 0 E := by
  have hlt := hc.lt
  have hC : IsCache L (w.setCell ⟨B, 3, none⟩ (.map (some w.heap.size))) B H n (some w.heap.size) :=
    ⟨(World.cell?_setCell_other _ _ _ _ (by simp)).trans hc.c0, (World.cell?_setCell_other _ _ _ _ (by simp)).trans hc.c1, (World.cell?_setCell_other _ _ _ _ (by simp)).trans hc.c2, World.cell?_setCell_same _ _ _ hc.c3,
      by simpa using hc.f0, by simpa using hc.f3, by simpa using hc.lt, by simpa using hc.ltH⟩
  have hsz : (w.setCell ⟨B, 3, none⟩ (.map (some w.heap.size))).heap.size = w.heap.size := by simp
  have hE' : ∀ j, j < n → SE (w.setCell ⟨B, 3, none⟩ (.map (some w.heap.size))) H j (E j) (E j).pl (E j).us (E j).gn := fun j hj => (hE j hj).setFar (by simp; omega) _
  have hB' : But H B w (w.setCell ⟨B, 3, none⟩ (.map (some w.heap.size))) := (But.refl H B w).wrote (wrote_set B 3 w _) (Or.inr (Or.inl rfl))
  generalize w.setCell ⟨B, 3, none⟩ (.map (some w.heap.size)) = w2 at *
  have ha := below_al (Below.refl w2.heap.size w2) (.map #[] 0)
  refine ⟨hC.below ha hC.lt, ⟨0, ?_⟩, fun j hj => (hE' j hj).below ha hC.ltH, hB'.later ha, hHB, hlt, Nat.le_refl _⟩
  rw [← hsz]
  exact MapIs.made _ _ (fun _ => rfl)

theorem mapAl {lit : Id → Lit} {w : World} {M m q : Nat} {f : Id → Option Int} {o : Obj} (h : MapIs Yba.prog 72 3 lit w M m f q) : MapIs Yba.prog 72 3 lit (w.alloc o) M m f q := h.below (below_al (Below.refl _ _) o) h.lt
theorem mapDr {lit : Id → Lit} {w : World} {M m q : Nat} {f : Id → Option Int} (h : MapIs Yba.prog 72 3 lit w M m f q) : MapIs Yba.prog 72 3 lit w.drew M m f q := h.block rfl
/-- The store of the round, whatever the world in which the map stands. -/
theorem upd_exists (lit : Id → Lit) (hlit : LitOk lit) (M k : Nat) (E : Nat → Ent) (hk : k < 1024) : ∃ upd : World → World, ∀ w', (∃ m f q, m < maxLen ∧ MapIs Yba.prog 72 3 lit w' M m f q) →
    (Instr.mapUpdate 63 (.map (some M)) (.agg #[.int .u64 ((E k).dv % 2), .int .u64 ((E k).io % 3)]) (.int .i64 k)).run Yba.prog w' = .ok () (upd w') := by
  have h1 : ∀ w', ∃ w'', (∃ m f q, m < maxLen ∧ MapIs Yba.prog 72 3 lit w' M m f q) → (Instr.mapUpdate 63 (.map (some M)) (.agg #[.int .u64 ((E k).dv % 2), .int .u64 ((E k).io % 3)]) (.int .i64 k)).run Yba.prog w' = .ok () w'' := by
    intro w'
    by_cases h : ∃ m f q, m < maxLen ∧ MapIs Yba.prog 72 3 lit w' M m f q
    · obtain ⟨m, f, q, hm, h⟩ := h
      obtain ⟨w'', r1, _, _⟩ := h.store (g := fun b => if b.1 = (idOf (E k)).1 then some (k : Int) else f b) law72 Yba.underlying63 Yba.underlying3 hm hlit.inj (hlit (idOf (E k))) (x := (k : Int)) (WalkArith.wf_i64 (by omega)) (if_pos rfl) (fun b hb => if_neg (fun e => hb (Subtype.ext e)))
      exact ⟨w'', fun _ => r1⟩
    · exact ⟨w', fun h' => absurd h' h⟩
  exact ⟨fun w' => (h1 w').choose, fun w' h => (h1 w').choose_spec h⟩
theorem upd_does (lit : Id → Lit) (hlit : LitOk lit) (M k q : Nat) (E : Nat → Ent) (hk : k < 1024) (hg : (E k).gn = false) {upd : World → World}
    (hu : ∀ w', (∃ m f q, m < maxLen ∧ MapIs Yba.prog 72 3 lit w' M m f q) → (Instr.mapUpdate 63 (.map (some M)) (.agg #[.int .u64 ((E k).dv % 2), .int .u64 ((E k).io % 3)]) (.int .i64 k)).run Yba.prog w' = .ok () (upd w'))
    (w' : World) (h : MapIs Yba.prog 72 3 lit w' M k (atF E k) q) : (∃ q', MapIs Yba.prog 72 3 lit (upd w') M (k + 1) (atF E (k + 1)) q') ∧ Wrote M w' (upd w') := by
  have hm : k < maxLen := by unfold maxLen; omega
  have r0 := hu w' ⟨k, _, q, hm, h⟩
  obtain ⟨w'', r1, r2, r3⟩ := h.store (g := atF E (k + 1)) law72 Yba.underlying63 Yba.underlying3 hm hlit.inj (hlit (idOf (E k))) (x := (k : Int)) (WalkArith.wf_i64 (by omega)) (atF_at E k hg) (fun b hb => atF_other E k b hb)
  have e := r0.symm.trans r1
  injection e with _ e
  rw [e]
  exact ⟨⟨_, r2⟩, r3⟩
theorem updCell {M b i : Nat} {y x : World} {v : Value} (hw : Wrote M y x) (h : y.cell? ⟨b, i, none⟩ = some v) (hne : b ≠ M) : x.cell? ⟨b, i, none⟩ = some v := (hw.cell (a := ⟨b, i, none⟩) hne).trans h

/-- Behind the marking, ahead of the store. -/
structure Mid (L : Int) (lit : Id → Lit) (w wr : World) (B H M n k q : Nat) (E : Nat → Ent) : Prop where
  cache : IsCache L wr B H n (some M)
  map : MapIs Yba.prog 72 3 lit wr M k (atF E k) q
  ents : ∀ j, j < n → SE wr H j (E j) (E j).pl (E j).us (gsF E (k + 1) j)
  bel : But H B w wr
  hHB : H < B
  hBM : B < M
  hM : w.heap.size ≤ M
theorem Idx.later {L : Int} {lit : Id → Lit} {w wr x : World} {B H M n k : Nat} {E : Nat → Ent} (h : Idx L lit w wr B H M n k E) (hb : Below wr.heap.size wr x) : Idx L lit w x B H M n k E := by
  obtain ⟨q, hq⟩ := h.map
  exact ⟨h.cache.below hb h.cache.lt, ⟨q, hq.below hb hq.lt⟩, fun j hj => (h.ents j hj).below hb h.cache.ltH, h.bel.later hb, h.hHB, h.hBM, h.hM⟩
theorem Mid.later {L : Int} {lit : Id → Lit} {w wr x : World} {B H M n k q : Nat} {E : Nat → Ent} (h : Mid L lit w wr B H M n k q E) (hb : Below wr.heap.size wr x) : Mid L lit w x B H M n k q E :=
  ⟨h.cache.below hb h.cache.lt, h.map.below hb h.map.lt, fun j hj => (h.ents j hj).below hb h.cache.ltH, h.bel.later hb, h.hHB, h.hBM, h.hM⟩
theorem Idx.none {L : Int} {lit : Id → Lit} {w wr : World} {B H M n k q : Nat} {E : Nat → Ent} (h : Idx L lit w wr B H M n k E) (hq : MapIs Yba.prog 72 3 lit wr M k (atF E k) q) (ha : atF E k (idOf (E k)) = .none) : Mid L lit w wr B H M n k q E :=
  ⟨h.cache, hq, fun j hj => by rw [gsF_none E k ha]; exact h.ents j hj, h.bel, h.hHB, h.hBM, h.hM⟩
theorem Idx.some {L : Int} {lit : Id → Lit} {w wr : World} {B H M n k q j : Nat} {E : Nat → Ent} (h : Idx L lit w wr B H M n k E) (hq : MapIs Yba.prog 72 3 lit wr M k (atF E k) q) (hg : (E k).gn = false) (ha : atF E k (idOf (E k)) = .some (j : Int)) (hj : j < n) :
    Mid L lit w (wr.setCell ⟨H, j * 41 + 40, .none⟩ (.bool true)) B H M n k q E := by
  have hH := h.hHB
  have hM := h.hBM
  refine ⟨h.cache.block (Below.heap_setCell _ _ _ _ (by simp; omega)) (by simp), hq.block (Below.heap_setCell _ _ _ _ (by simp; omega)), fun i hi => ?_, h.bel.wrote (wrote_set H _ wr _) (Or.inl rfl), h.hHB, h.hBM, h.hM⟩
  rw [gsF_some E k j hg ha]
  by_cases e : i = j
  · subst e
    rw [if_pos rfl]
    exact (h.ents i hi).set 40 (by omega) (.bool true) rfl
  · rw [if_neg e]
    exact (h.ents i hi).setOther 40 (by omega) (Ne.symm e) _
theorem Mid.stored {L : Int} {lit : Id → Lit} {w wr x : World} {B H M n k q q' : Nat} {E : Nat → Ent} (h : Mid L lit w wr B H M n k q E) (hx : Wrote M wr x) (hm : MapIs Yba.prog 72 3 lit x M (k + 1) (atF E (k + 1)) q') : Idx L lit w x B H M n (k + 1) E := by
  have hH := h.hHB
  have hM := h.hBM
  exact ⟨h.cache.block (hx.block B (by omega)) (by rw [hx.size]; exact Nat.le_refl _), ⟨q', hm⟩, fun j hj => (h.ents j hj).block (hx.block H (by omega)), h.bel.wrote hx (Or.inr (Or.inr h.hM)), h.hHB, h.hBM, h.hM⟩

theorem zero3' (w : World) : (zeroValue 3).run Yba.prog w = .ok (.int .i64 0) w := by kernel_rfl

theorem make_map (n : Nat) (w : World) : (Instr.makeMap 63 (some (.int .i64 n))).run Yba.prog w = .ok (.map (some w.heap.size)) (w.alloc (.map #[] 0)) := by
  simp [Instr.makeMap, run_underlying Yba.underlying63, asInt, asIntOf, newObj]
  rfl

set_option maxRecDepth 100000 in
set_option maxHeartbeats 1000000 in
theorem index_any (L : Int) (lit : Id → Lit) (hlit : LitOk lit) (B H n : Nat) (E : Nat → Ent) (w : World) (hn : n ≤ 1024) (hHB : H < B) (hc : IsCache L w B H n none) (hE : ∀ j, j < n → SE w H j (E j) (E j).pl (E j).us (E j).gn) :
    Calls Yba.prog 20 #[.pointer (some ⟨B, 0, none⟩)] w fun e w' => ∃ M, e = .returned (.map (some M)) ∧ Idx L lit w w' B H M n n E := by
  have HE := hide hE
  obtain ⟨c0, c1, c2, c3, f0, f3, lt, ltH⟩ := hc
  have HC := hide (show IsCache L w B H n none from ⟨c0, c1, c2, c3, f0, f3, lt, ltH⟩)
  have hnil := fun w r => run_eql_map_nil (P := Yba.prog) w 63 72 3 r Yba.underlying63
  have hmm := make_map n
  clear hE
  go_enter Yba.func20, Yba.ntmps20
  go_wp2_with fail
  clear hmm hnil
  have HS := hide (idx_start L lit B H n E w HC.out HE.out hHB)
  clear c0 c1 c2 c3 f0 f3
  go_loopw [26] (fun i wr => ∃ k : Nat, k ≤ n ∧ i = .int .i64 k ∧ Hid (Idx L lit w wr B H w.heap.size n k E)) (fun i _ => n - (intOf i).toNat)
  case atStart => exact ⟨0, Nat.zero_le _, rfl, HS⟩
  case round =>
    obtain ⟨k, hk, rfl, HI⟩ := hrel
    obtain ⟨c0, c1, c2, c3, f0, f3, hBl, hHl⟩ := HI.out.cache
    by_cases hlt : k < n
    · have hse := HI.out.ents k hlt
      have g40 := hse.cell 40 (v := .bool (E k).gn) (by rw [gsF_late E k k (by omega)]; rfl)
      have HSE := hide hse
      clear hse
      cases hg : (E k).gn
      · rw [hg] at g40
        go_wp2_with fail
        obtain ⟨q, hq⟩ := HI.out.map
        have HLK := hide (fun (w' : World) (hw : MapIs Yba.prog 72 3 lit w' w.heap.size k (atF E k) q) => hw.look_ok law72 Yba.underlying63 Yba.underlying3 (zero3' w') (hlit (idOf (E k))))
        obtain ⟨upd, hupd⟩ := upd_exists lit hlit w.heap.size k E (by omega)
        have HE2 := hide (upd_does lit hlit w.heap.size k q E (by omega) hg hupd)
        have HU1 := hide (fun (w' : World) (h : MapIs Yba.prog 72 3 lit w' w.heap.size k (atF E k) q) => hupd w' ⟨k, atF E k, q, by unfold maxLen; omega, h⟩)
        have HU2 := hide (fun (w' : World) (h : MapIs Yba.prog 72 3 lit w' w.heap.size k (atF E k) q) => hupd (upd w') ⟨k + 1, atF E (k + 1), _, by unfold maxLen; omega, (HE2.out w' h).1.choose_spec⟩)
        have hHM : H ≠ w.heap.size := by omega
        have hBM : B ≠ w.heap.size := by omega
        have HG := hide hg
        clear hupd hg
        have s1 := HSE.out.cell 1 (v := .int .u64 ((E k).dv % 2)) rfl
        have s2 := HSE.out.cell 2 (v := .int .u64 ((E k).io % 3)) rfl
        have s3 := HSE.out.cell 3 (v := .int .i64 ((E k).sz % 2)) rfl
        have s4 := HSE.out.cell 4 (v := .int .i64 ((E k).mt % 2)) rfl
        have s5 := HSE.out.cell 5 (v := .int .i64 0) rfl
        generalize hat : atF E k (idOf (E k)) = at0 at *
        have HA := hide hat
        clear hat
        go_region_held3 (fun w' => w'.cell? ⟨B, 3, none⟩ = some (.map (some w.heap.size)) ∧ w'.cell? ⟨H, k * 41 + 1, none⟩ = some (.int .u64 ((E k).dv % 2)) ∧ w'.cell? ⟨H, k * 41 + 2, none⟩ = some (.int .u64 ((E k).io % 3)) ∧ w'.cell? ⟨H, k * 41 + 3, none⟩ = some (.int .i64 ((E k).sz % 2))
          ∧ w'.cell? ⟨H, k * 41 + 4, none⟩ = some (.int .i64 ((E k).mt % 2)) ∧ w'.cell? ⟨H, k * 41 + 5, none⟩ = some (.int .i64 0) ∧ MapIs Yba.prog 72 3 lit w' w.heap.size k (atF E k) q
          ∧ (Instr.lookup 63 (.map (some w.heap.size)) (.agg #[.int .u64 ((E k).dv % 2), .int .u64 ((E k).io % 3)]) true).run Yba.prog w' = .ok (.tuple #[.int .i64 (at0.getD 0), .bool at0.isSome]) w')
          ((go_split_ands; (repeat' apply And.intro) <;> first | (with_reducible (repeat (first | assumption | refine drw ?_ | refine al ?_ _ | refine mapDr ?_ | refine mapAl ?_))); done | (refine HLK.out _ ?_; with_reducible (repeat (first | assumption | refine mapDr ?_ | refine mapAl ?_)); done)))
          (first | (go_at_call 19; refine (id_any _ _ _ _ _ _).mono ?_; rintro e w' ⟨rfl, o1, o2, rfl⟩))
        have HI2 := hide (HI.out.later (below_al (below_al (Below.refl wr.heap.size wr) o1) o2).drew)
        have HQ2 := hide (mapDr (mapAl (o := o2) (mapAl (o := o1) hq)))
        clear hq HSE g40 c0 c1 c2 c3 f0 f3 s1 s2 s3 s4 s5 hBl hHl
        generalize ((wr.alloc o1).alloc o2).drew = X at HI2 HQ2 ⊢
        have c2 := HI2.out.cache.c2
        cases at0 with
        | none =>
          have HMid := hide (HI2.out.none HQ2.out HA.out)
          go_wp2_with fail
          have c3 := HMid.out.cache.c3
          have hse2 := HMid.out.ents k hlt
          have s1 := hse2.cell 1 (v := .int .u64 ((E k).dv % 2)) rfl
          have s2 := hse2.cell 2 (v := .int .u64 ((E k).io % 3)) rfl
          have s3 := hse2.cell 3 (v := .int .i64 ((E k).sz % 2)) rfl
          have s4 := hse2.cell 4 (v := .int .i64 ((E k).mt % 2)) rfl
          have s5 := hse2.cell 5 (v := .int .i64 0) rfl
          have hq2 := HMid.out.map
          clear hse2
          go_region_held3 (fun w' => w'.cell? ⟨B, 3, none⟩ = some (.map (some w.heap.size)) ∧ w'.cell? ⟨H, k * 41 + 1, none⟩ = some (.int .u64 ((E k).dv % 2)) ∧ w'.cell? ⟨H, k * 41 + 2, none⟩ = some (.int .u64 ((E k).io % 3)) ∧ w'.cell? ⟨H, k * 41 + 3, none⟩ = some (.int .i64 ((E k).sz % 2))
          ∧ w'.cell? ⟨H, k * 41 + 4, none⟩ = some (.int .i64 ((E k).mt % 2)) ∧ w'.cell? ⟨H, k * 41 + 5, none⟩ = some (.int .i64 0) 
            ∧ (Instr.mapUpdate 63 (.map (some w.heap.size)) (.agg #[.int .u64 ((E k).dv % 2), .int .u64 ((E k).io % 3)]) (.int .i64 k)).run Yba.prog w' = .ok () (upd w'))
            ((go_split_ands; (repeat' apply And.intro) <;> first
              | (with_reducible (repeat (first | assumption | refine drw ?_ | refine al ?_ _))); done
              | (refine HU1.out _ ?_; with_reducible (repeat (first | assumption | refine mapDr ?_ | refine mapAl ?_)); done)
              | (refine updCell (HE2.out _ ?_).2 ?_ (by assumption) <;> (with_reducible (repeat (first | assumption | refine drw ?_ | refine al ?_ _ | refine mapDr ?_ | refine mapAl ?_))); done)
              | (refine HU2.out _ ?_; with_reducible (repeat (first | assumption | refine mapDr ?_ | refine mapAl ?_)); done)))
            (first | (go_at_call 19; refine (id_any _ _ _ _ _ _).mono ?_; rintro e w' ⟨rfl, o3, o4, rfl⟩))
          have HJ := hide (HMid.out.later (below_al (below_al (Below.refl _ _) o3) o4).drew)
          have HK := hide (HE2.out _ HJ.out.map)
          go_wp2_with fail
          go_roundw
          case rel =>
            obtain ⟨q', hq'⟩ := HK.out.1
            exact ⟨k + 1, by omega, by go_num, HJ.out.stored HK.out.2 hq'⟩
          case measure => simp [intOf]; omega
        | some x =>
          obtain ⟨j, rfl, hjk, _⟩ := atF_some E _ k HA.out
          have HMid := hide (HI2.out.some HQ2.out HG.out HA.out (by omega))
          have hsj := HI2.out.ents j (by omega)
          have j40 := hsj.cell 40 (v := .bool (gsF E k j)) rfl
          have j40f := hsj.free 40 (by omega)
          clear hsj
          go_wp2_with fail
          have c3 := HMid.out.cache.c3
          have hse2 := HMid.out.ents k hlt
          have s1 := hse2.cell 1 (v := .int .u64 ((E k).dv % 2)) rfl
          have s2 := hse2.cell 2 (v := .int .u64 ((E k).io % 3)) rfl
          have s3 := hse2.cell 3 (v := .int .i64 ((E k).sz % 2)) rfl
          have s4 := hse2.cell 4 (v := .int .i64 ((E k).mt % 2)) rfl
          have s5 := hse2.cell 5 (v := .int .i64 0) rfl
          have hq2 := HMid.out.map
          clear hse2
          go_region_held3 (fun w' => w'.cell? ⟨B, 3, none⟩ = some (.map (some w.heap.size)) ∧ w'.cell? ⟨H, k * 41 + 1, none⟩ = some (.int .u64 ((E k).dv % 2)) ∧ w'.cell? ⟨H, k * 41 + 2, none⟩ = some (.int .u64 ((E k).io % 3)) ∧ w'.cell? ⟨H, k * 41 + 3, none⟩ = some (.int .i64 ((E k).sz % 2))
          ∧ w'.cell? ⟨H, k * 41 + 4, none⟩ = some (.int .i64 ((E k).mt % 2)) ∧ w'.cell? ⟨H, k * 41 + 5, none⟩ = some (.int .i64 0) 
            ∧ (Instr.mapUpdate 63 (.map (some w.heap.size)) (.agg #[.int .u64 ((E k).dv % 2), .int .u64 ((E k).io % 3)]) (.int .i64 k)).run Yba.prog w' = .ok () (upd w'))
            ((go_split_ands; (repeat' apply And.intro) <;> first
              | (with_reducible (repeat (first | assumption | refine drw ?_ | refine al ?_ _))); done
              | (refine HU1.out _ ?_; with_reducible (repeat (first | assumption | refine mapDr ?_ | refine mapAl ?_)); done)
              | (refine updCell (HE2.out _ ?_).2 ?_ (by assumption) <;> (with_reducible (repeat (first | assumption | refine drw ?_ | refine al ?_ _ | refine mapDr ?_ | refine mapAl ?_))); done)
              | (refine HU2.out _ ?_; with_reducible (repeat (first | assumption | refine mapDr ?_ | refine mapAl ?_)); done)))
            (first | (go_at_call 19; refine (id_any _ _ _ _ _ _).mono ?_; rintro e w' ⟨rfl, o3, o4, rfl⟩))
          have HJ := hide (HMid.out.later (below_al (below_al (Below.refl _ _) o3) o4).drew)
          have HK := hide (HE2.out _ HJ.out.map)
          go_wp2_with fail
          go_roundw
          case rel =>
            obtain ⟨q', hq'⟩ := HK.out.1
            exact ⟨k + 1, by omega, by go_num, HJ.out.stored HK.out.2 hq'⟩
          case measure => simp [intOf]; omega
      · rw [hg] at g40
        go_wp2_with fail
        go_roundw
        case rel => exact ⟨k + 1, by omega, by go_num, HI.out.skip hg⟩
        case measure => simp [intOf]; omega
    · obtain rfl : k = n := by omega
      go_wp2_with fail
      go_ret
      exact ⟨_, rfl, HI.out⟩
end Go.Proofs.Ybulkbpk
