import Derived.Test.YbulkbpkCIndex
import Derived.Test.YbulkbpkCEq
namespace Go.Proofs.Ybulkbpk
open Go.RowKit Go.Maps
attribute [local go_sem] eq43 guard43 guard47

/-- The entry that is found, if any. -/
def hit (E : Nat → Ent) (n : Nat) (a : Id) (s m : Int) : Option Nat :=
  match atF E n a with
  | some x => if (E x.toNat).sz % 2 = s ∧ (E x.toNat).mt % 2 = m then some x.toNat else none
  | none => none
def plF (E : Nat → Ent) (h : Option Nat) (j : Nat) : Int := if h = some j ∧ (E j).pl < 0 then -1 else (E j).pl
def usF (E : Nat → Ent) (h : Option Nat) (j : Nat) : Bool := (E j).us || decide (h = some j)
def resS (E : Nat → Ent) (h : Option Nat) : Array Value := match h with | some j => sumA (E j).sm | none => zeroA
/-- What a look-up leaves. -/
structure Aft (L : Int) (w w' : World) (B H n : Nat) (E : Nat → Ent) (h : Option Nat) : Prop where
  cache : ∃ mp, IsCache L w' B H n mp
  ents : ∀ j, j < n → SE w' H j (E j) (plF E h j) (usF E h j) (gsF E n j)
  bel : But H B w w'
def stV (a : Id) (s m : Int) : Value := .agg #[.int .u64 a.1.1, .int .u64 a.1.2, .int .i64 s, .int .i64 m, .int .i64 0]

theorem below_drewN {B : Nat} {w a : World} (h : Below B w a) (n : Nat) : Below B w (a.drewN n) := ⟨h.os, h.tape, h.output, h.size, h.block⟩
/-- Where the look-up begins: the stat in a variable of its own, the result's variable. -/
structure Beg (w X : World) (a : Id) (s m : Int) : Prop where
  bel : Below w.heap.size w X
  b0 : X.cell? ⟨w.heap.size, 0, none⟩ = some (.int .u64 a.1.1)
  b1 : X.cell? ⟨w.heap.size, 1, none⟩ = some (.int .u64 a.1.2)
  b2 : X.cell? ⟨w.heap.size, 2, none⟩ = some (.int .i64 s)
  b3 : X.cell? ⟨w.heap.size, 3, none⟩ = some (.int .i64 m)
  b4 : X.cell? ⟨w.heap.size, 4, none⟩ = some (.int .i64 0)
  res : X.there (w.heap.size + 1) 0 32
  lt : w.heap.size + 1 < X.heap.size
theorem beg (w : World) (a : Id) (s m : Int) (nq : Nat) : Beg w (((w.alloc (.cells #[.int .u64 a.1.1, .int .u64 a.1.2, .int .i64 s, .int .i64 m, .int .i64 0] 43)).alloc (.cells zeroA 47)).drewN nq) a s m := by
  have hr : ((w.alloc (.cells #[.int .u64 a.1.1, .int .u64 a.1.2, .int .i64 s, .int .i64 m, .int .i64 0] 43)).alloc (.cells zeroA 47)).there (w.heap.size + 1) 0 32 := by
    have := there_new (w.alloc (.cells #[.int .u64 a.1.1, .int .u64 a.1.2, .int .i64 s, .int .i64 m, .int .i64 0] 43)) zeroA 47
    rw [World.size_alloc] at this
    exact this
  refine ⟨below_drewN (below_al (below_al (Below.refl _ _) _) _) nq, ?_, ?_, ?_, ?_, ?_, hr, by simp⟩ <;> go_simp
theorem wrote_setCells {b : Nat} {w : World} : ∀ (vs : List Value) (o : Nat) (w' : World), Wrote b w w' → Wrote b w (w'.setCells b o vs)
  | [], _, _, h => h
  | v :: r, o, w', h => wrote_setCells r (o + 1) (w'.setCell ⟨b, o, none⟩ v) (h.setCell o v)
theorem But.there {H B b o n : Nat} {w x : World} (h : But H B w x) (ht : w.there b o n) (h1 : b ≠ H) (h2 : b ≠ B) : x.there b o n := fun j hj => by
  obtain ⟨t1, t2⟩ := ht j hj
  obtain ⟨u, hu⟩ := Option.isSome_iff_exists.1 t1
  have hb := h.block b (World.block_lt_of_cell? w _ hu) h1 h2
  exact ⟨by rw [World.cell?_of_block (w := w) hb]; exact t1, by rw [World.frozen?_of_block (w := w) hb]; exact t2⟩
/-- Ahead of the end. -/
structure St (L : Int) (w Z : World) (B H n : Nat) (E : Nat → Ent) : Prop where
  cache : ∃ mp, IsCache L Z B H n mp
  ents : ∀ i, i < n → SE Z H i (E i) (E i).pl (E i).us (gsF E n i)
  bel : But H B w Z
  hHB : H < B
  hBw : B < w.heap.size
theorem St.drewN {L : Int} {w Z : World} {B H n : Nat} {E : Nat → Ent} (h : St L w Z B H n E) (k : Nat) : St L w (Z.drewN k) B H n E := by
  obtain ⟨mp, hc⟩ := h.cache
  exact ⟨⟨mp, hc.block rfl (Nat.le_refl _)⟩, fun i hi => (h.ents i hi).block rfl, ⟨h.bel.os, h.bel.tape, h.bel.output, h.bel.size, h.bel.block⟩, h.hHB, h.hBw⟩
theorem Aft.far {L : Int} {w Z : World} {B H n R : Nat} {E : Nat → Ent} {h : Option Nat} (a : Aft L w Z B H n E h) (hH : H ≠ R) (hB : B ≠ R) (hR : w.heap.size ≤ R) (cs : List Value) : Aft L w (Z.setCells R 0 cs) B H n E h := by
  have hw := wrote_setCells (b := R) cs 0 Z (Wrote.refl R Z)
  obtain ⟨mp, hc⟩ := a.cache
  exact ⟨⟨mp, hc.block (hw.block B hB) (by rw [hw.size]; exact Nat.le_refl _)⟩, fun j hj => (a.ents j hj).block (hw.block H hH), a.bel.wrote hw (Or.inr (Or.inr hR))⟩
theorem St.miss {L : Int} {w Z : World} {B H n : Nat} {E : Nat → Ent} (h : St L w Z B H n E) : Aft L w Z B H n E none :=
  ⟨h.cache, fun j hj => by
    have e1 : plF E none j = (E j).pl := if_neg (by simp)
    have e2 : usF E none j = (E j).us := by simp [usF]
    rw [e1, e2]; exact h.ents j hj, h.bel⟩
theorem St.used {L : Int} {w Z : World} {B H n j : Nat} {E : Nat → Ent} (h : St L w Z B H n E) (hj : j < n) (hp : ¬ (E j).pl < 0) : Aft L w (Z.setCell ⟨H, j * 41 + 39, none⟩ (.bool true)) B H n E (some j) := by
  have hH := h.hHB
  obtain ⟨mp, hc⟩ := h.cache
  have hw := wrote_set H (j * 41 + 39) Z (.bool true)
  refine ⟨⟨mp, hc.block (hw.block B (by omega)) (by rw [hw.size]; exact Nat.le_refl _)⟩, fun i hi => ?_, h.bel.wrote hw (Or.inl rfl)⟩
  by_cases e : i = j
  · subst e
    have e1 : plF E (some i) i = (E i).pl := if_neg (fun x => hp x.2)
    have e2 : usF E (some i) i = true := by simp [usF]
    rw [e1, e2]
    exact (h.ents i hi).set 39 (by omega) (.bool true) rfl
  · have e1 : plF E (some j) i = (E i).pl := if_neg (fun x => e (by have := x.1; injection this with this; exact this.symm))
    have e2 : usF E (some j) i = (E i).us := by simp [usF]; intro h'; exact absurd h'.symm e
    rw [e1, e2]
    exact (h.ents i hi).setOther 39 (by omega) (Ne.symm e) _
theorem St.placed {L : Int} {w Z : World} {B H n j : Nat} {E : Nat → Ent} (h : St L w Z B H n E) (hj : j < n) (hp : (E j).pl < 0) : Aft L w ((Z.setCell ⟨H, j * 41 + 39, none⟩ (.bool true)).setCell ⟨H, j * 41 + 38, none⟩ (.int .i64 (-1))) B H n E (some j) := by
  have hH := h.hHB
  obtain ⟨mp, hc⟩ := h.cache
  have hw := (wrote_set H (j * 41 + 39) Z (.bool true)).trans (wrote_set H (j * 41 + 38) (Z.setCell ⟨H, j * 41 + 39, none⟩ (.bool true)) (.int .i64 (-1)))
  refine ⟨⟨mp, hc.block (hw.block B (by omega)) (by rw [hw.size]; exact Nat.le_refl _)⟩, fun i hi => ?_, h.bel.wrote hw (Or.inl rfl)⟩
  by_cases e : i = j
  · subst e
    have e1 : plF E (some i) i = -1 := if_pos ⟨rfl, hp⟩
    have e2 : usF E (some i) i = true := by simp [usF]
    rw [e1, e2]
    exact (((h.ents i hi).set (e' := E i) (p' := (E i).pl) (u' := true) (g' := gsF E n i) 39 (by omega) (.bool true) rfl).set 38 (by omega) (.int .i64 (-1)) rfl)
  · have e1 : plF E (some j) i = (E i).pl := if_neg (fun x => e (by have := x.1; injection this with this; exact this.symm))
    have e2 : usF E (some j) i = (E i).us := by simp [usF]; intro h'; exact absurd h'.symm e
    rw [e1, e2]
    exact ((h.ents i hi).setOther 39 (by omega) (Ne.symm e) _).setOther 38 (by omega) (Ne.symm e) _
/-- The map is asked, two new blocks later. -/
theorem idx_look {L : Int} {lit : Id → Lit} {w wr : World} {B H M n k : Nat} {E : Nat → Ent} (hlit : LitOk lit) (h : Idx L lit w wr B H M n k E) (a : Id) (o1 o2 : Obj) :
    (Instr.lookup 63 (.map (some M)) (.agg #[.int .u64 a.1.1, .int .u64 a.1.2]) true).run Yba.prog ((wr.alloc o1).alloc o2) = .ok (.tuple #[.int .i64 ((atF E k a).getD 0), .bool (atF E k a).isSome]) ((wr.alloc o1).alloc o2) := by
  obtain ⟨q, hq⟩ := h.map
  exact (mapAl (o := o2) (mapAl (o := o1) hq)).look_ok law72 Yba.underlying63 Yba.underlying3 (zero3' _) (hlit a)

theorem Idx.st {L : Int} {lit : Id → Lit} {w X wr : World} {B H M n : Nat} {E : Nat → Ent} (h : Idx L lit X.drew wr B H M n n E) (hX : Below w.heap.size w X) (hB : B < w.heap.size) (o1 o2 : Obj) : St L w ((wr.alloc o1).alloc o2) B H n E := by
  have hb0 : But H B w X.drew := ⟨hX.os, hX.tape, hX.output, hX.size, fun b hb _ _ => hX.block b hb⟩
  have hbw : Below wr.heap.size wr ((wr.alloc o1).alloc o2) := below_al (below_al (Below.refl _ _) _) _
  exact ⟨⟨Option.some M, h.cache.below hbw h.cache.lt⟩, fun i hi => (h.ents i hi).below hbw (h.ents i hi).lt, (hb0.trans h.bel).later hbw, h.hHB, hB⟩
/-- What the rest of the look-up reads. -/
structure Rd (w Y : World) (a : Id) (s m : Int) : Prop where
  b0 : Y.cell? ⟨w.heap.size, 0, none⟩ = some (.int .u64 a.1.1)
  b1 : Y.cell? ⟨w.heap.size, 1, none⟩ = some (.int .u64 a.1.2)
  b2 : Y.cell? ⟨w.heap.size, 2, none⟩ = some (.int .i64 s)
  b3 : Y.cell? ⟨w.heap.size, 3, none⟩ = some (.int .i64 m)
  b4 : Y.cell? ⟨w.heap.size, 4, none⟩ = some (.int .i64 0)
  res : Y.there (w.heap.size + 1) 0 32
theorem Beg.rd {w X Y : World} {a : Id} {s m : Int} {H B : Nat} (h : Beg w X a s m) (hb : But H B X Y) (hH : H < w.heap.size) (hB : B < w.heap.size) : Rd w Y a s m :=
  ⟨hb.cell h.b0 (by omega) (by omega), hb.cell h.b1 (by omega) (by omega), hb.cell h.b2 (by omega) (by omega), hb.cell h.b3 (by omega) (by omega), hb.cell h.b4 (by omega) (by omega), hb.there h.res (by omega) (by omega)⟩

theorem SE.sum {w : World} {b k : Nat} {e : Ent} {p : Int} {u g : Bool} (h : SE w b k e p u g) : w.rangeAt b (k * 41 + 6) (sumA e.sm).toList := fun i v hv => by
  have h1 : (entL k e p u g)[6 + i]? = Option.some v := by
    show (Value.int .u64 k :: .int .u64 (e.dv % 2) :: .int .u64 (e.io % 3) :: .int .i64 (e.sz % 2) :: .int .i64 (e.mt % 2) :: .int .i64 0 :: ((sumA e.sm).toList ++ [.int .i64 p, .bool u, .bool g]))[6 + i]? = Option.some v
    rw [Nat.add_comm 6 i]
    simp only [List.getElem?_cons_succ]
    rw [List.getElem?_append_left (List.getElem?_eq_some_iff.1 hv).1]
    exact hv
  have h2 := h.at' (6 + i) v h1
  rw [← Nat.add_assoc] at h2
  exact h2
theorem res_load (Z : World) (R : Nat) (C : Array Value) (hC : C.size = 32) (ht : Z.there R 0 32) : (loadVar 47 ⟨R, 0, none⟩).run Yba.prog (Z.setCells R 0 C.toList) = .ok (.agg C) (Z.setCells R 0 C.toList) := by
  have hlen : C.toList.length = 32 := by rw [Array.length_toList]; exact hC
  have h := run_loadVar_mid (P := Yba.prog) _ R 0 47 C.toList (.array 32 5) (World.rangeAt_setCells_same Z R 0 C.toList (by rw [hlen]; exact ht)) Yba.underlying47 rfl (by rw [hlen]; exact size47)
  exact h

set_option maxRecDepth 100000 in
set_option maxHeartbeats 2000000 in
theorem lookup_any (L : Int) (lit : Id → Lit) (hlit : LitOk lit) (B H n : Nat) (E : Nat → Ent) (a : Id) (s m : Int) (w : World) (hn : n ≤ 1024) (hHB : H < B) (hc : IsCache L w B H n none) (hE : ∀ j, j < n → SE w H j (E j) (E j).pl (E j).us (E j).gn) :
    Calls Yba.prog 16 #[.pointer (some ⟨B, 0, none⟩), .agg #[.int .u64 a.1.1, .int .u64 a.1.2, .int .i64 s, .int .i64 m, .int .i64 0], .int .i64 (-1)] w fun e w' =>
      e = .returned (.tuple #[.agg (resS E (hit E n a s m)), .bool (hit E n a s m).isSome]) ∧ Aft L w w' B H n E (hit E n a s m) := by
  have HC := hide hc
  have HE := hide hE
  have hBl := hc.lt
  have hHl := hc.ltH
  clear hc hE
  go_enter Yba.func16, Yba.ntmps16
  go_wp2_with fail
  go_quiet (fail)
  go_wp2_with fail
  generalize hX : World.drewN _ nq = X
  have HBeg : Hid (Beg w X a s m) := by rw [← hX]; exact beg w a s m nq
  clear hX
  obtain ⟨hbel, b0, b1, b2, b3, b4, hres, hlt⟩ := HBeg.out
  have HCX := hide (show IsCache L X.drew B H n none from (HC.out.below hbel hBl).block rfl (Nat.le_refl _))
  have HEX := hide (show ∀ j, j < n → SE X.drew H j (E j) (E j).pl (E j).us (E j).gn from fun j hj => ((HE.out j hj).below hbel hHl).block rfl)
  have hne1 : w.heap.size ≠ H := by omega
  have hne2 : w.heap.size ≠ B := by omega
  clear hbel hres
  generalize hat : atF E n a = at0
  have HA := hide hat
  clear hat
  go_region_held3 (fun w' => w'.cell? ⟨w.heap.size, 0, none⟩ = some (.int .u64 a.1.1) ∧ w'.cell? ⟨w.heap.size, 1, none⟩ = some (.int .u64 a.1.2) ∧ w'.cell? ⟨w.heap.size, 2, none⟩ = some (.int .i64 s) ∧ w'.cell? ⟨w.heap.size, 3, none⟩ = some (.int .i64 m) ∧ w'.cell? ⟨w.heap.size, 4, none⟩ = some (.int .i64 0))
    ((go_split_ands; (repeat' apply And.intro) <;> first | (with_reducible (repeat (first | assumption | refine drw ?_ | refine al ?_ _))); done | (refine But.cell (by assumption) ?_ (by assumption) (by assumption); assumption)))
    (first
      | (go_at_call 20; refine (index_any L lit hlit B H n E _ hn hHB HCX.out HEX.out).mono ?_; rintro e w1 ⟨M, rfl, hidx⟩; have hlk := idx_look hlit hidx a; rw [HA.out] at hlk; have hbut := hidx.bel; have HIdx := hide hidx; clear hidx)
      | (go_at_call 19; refine (id_any _ _ _ _ _ _).mono ?_; rintro e w' ⟨rfl, o1, o2, rfl⟩))
  have HSt : Hid (St L w ((w1.alloc o1).alloc o2) B H n E) := HIdx.out.st HBeg.out.bel hBl o1 o2
  have HRd : Hid (Rd w ((w1.alloc o1).alloc o2) a s m) := HBeg.out.rd (H := H) (B := B) (((But.mk rfl rfl rfl (Nat.le_refl _) (fun _ _ _ _ => rfl) : But H B X X.drew).trans HIdx.out.bel).later (below_al (below_al (Below.refl _ _) _) _)) hHl hBl
  have hlk' := hlk
  clear hlk hbut b0 b1 b2 b3 b4 HIdx HBeg hlt hne1 hne2 HCX HEX
  generalize (w1.alloc o1).alloc o2 = Y at HSt HRd ⊢
  clear hlk'
  cases at0 with
  | none =>
    have hh : hit E n a s m = none := by simp only [hit, HA.out]
    have hr := HRd.out.res
    go_wp2_with (first | refine wpList_store_mid rfl 47 (.tmp 6) (.tmp 57) rfl (w.heap.size+1) 0 zeroA rfl rfl hr size47 zeroA_one ?_ | fail)
    refine bodyPost_ret (v := .tuple #[.agg zeroA, .bool false]) (results_cell_tmp1 Yba.results16 _ _ _ (w.heap.size+1) rfl rfl (res_load Y _ zeroA rfl hr)) rfl ⟨by rw [hh]; rfl, ?_⟩
    rw [hh]
    exact HSt.out.miss.far (by omega) (by omega) (Nat.le_succ _) _
  | some x =>
    obtain ⟨j, rfl, hj, hg, hid, _⟩ := atF_some E a n HA.out
    have hr := HRd.out.res
    have c2 : Y.cell? ⟨B, 2, none⟩ = some (.slice (some ⟨H, 0, none⟩) n n) := by obtain ⟨mp, hcY⟩ := HSt.out.cache; exact hcY.c2
    have hse := HSt.out.ents j hj
    have i1 : (E j).dv % 2 = a.1.1 := by rw [← hid]; rfl
    have i2 : (E j).io % 3 = a.1.2 := by rw [← hid]; rfl
    have e1 : Y.cell? ⟨H, j * 41 + 1, none⟩ = some (.int .u64 a.1.1) := by rw [← i1]; exact hse.cell 1 rfl
    have e2 : Y.cell? ⟨H, j * 41 + 2, none⟩ = some (.int .u64 a.1.2) := by rw [← i2]; exact hse.cell 2 rfl
    have e3 : Y.cell? ⟨H, j * 41 + 3, none⟩ = some (.int .i64 ((E j).sz % 2)) := hse.cell 3 rfl
    have e4 : Y.cell? ⟨H, j * 41 + 4, none⟩ = some (.int .i64 ((E j).mt % 2)) := hse.cell 4 rfl
    have e5 : Y.cell? ⟨H, j * 41 + 5, none⟩ = some (.int .i64 0) := hse.cell 5 rfl
    obtain ⟨b0, b1, b2, b3, b4, _⟩ := HRd.out
    have HJ := hide (And.intro hj hid)
    clear hse hid hg i1 i2
    by_cases q1 : (E j).sz % 2 = s
    · by_cases q2 : (E j).mt % 2 = m
      · have hh : hit E n a s m = some j := by simp only [hit, HA.out, Int.toNat_natCast]; exact if_pos ⟨q1, q2⟩
        have HH := hide hh
        clear hh
        go_wp2_with fail
        go_quiet (fail)
        have HSt2 : Hid (St L w (Y.drewN nq) B H n E) := HSt.out.drewN nq
        have hr' : (Y.drewN nq).there (w.heap.size + 1) 0 32 := hr
        clear HSt HRd hr e1 e2 e3 e4 e5 b0 b1 b2 b3 b4 c2
        generalize Y.drewN nq = Z at HSt2 hr' ⊢
        have hse := HSt2.out.ents j hj
        have e38 : Z.cell? ⟨H, j * 41 + 38, none⟩ = some (.int .i64 (E j).pl) := hse.cell 38 rfl
        have e39 : Z.cell? ⟨H, j * 41 + 39, none⟩ = some (.bool (E j).us) := hse.cell 39 rfl
        have f38 := hse.free 38 (by omega)
        have f39 := hse.free 39 (by omega)
        clear hse
        by_cases hp : (E j).pl < 0
        · have HA2 := hide (HSt2.out.placed hj hp)
          have hsum := (HA2.out.ents j hj).sum
          have ht : ((Z.setCell ⟨H, j * 41 + 39, none⟩ (.bool true)).setCell ⟨H, j * 41 + 38, none⟩ (.int .i64 (-1))).there (w.heap.size + 1) 0 32 := World.there_setCells (World.there_setCells hr' H (j * 41 + 39) [.bool true]) H (j * 41 + 38) [.int .i64 (-1)]
          go_wp2_with (first | refine wpList_load_mid rfl 47 (.tmp 85) rfl H (j * 41 + 6) rfl (sumA (E j).sm).toList (.array 32 5) hsum Yba.underlying47 rfl size47 ?_ | refine wpList_store_mid rfl 47 (.tmp 6) (.tmp 86) rfl (w.heap.size+1) 0 (sumA (E j).sm) rfl rfl ht size47 (sumA_one _) ?_ | fail)
          refine bodyPost_ret (v := .tuple #[.agg (sumA (E j).sm), .bool true]) (results_cell_tmp1 Yba.results16 _ _ _ (w.heap.size+1) rfl rfl (res_load _ _ (sumA (E j).sm) rfl ht)) rfl ⟨by rw [HH.out]; rfl, ?_⟩
          rw [HH.out]
          exact HA2.out.far (by omega) (by omega) (Nat.le_succ _) _
        · have HA2 := hide (HSt2.out.used hj hp)
          have hsum := (HA2.out.ents j hj).sum
          have ht : (Z.setCell ⟨H, j * 41 + 39, none⟩ (.bool true)).there (w.heap.size + 1) 0 32 := World.there_setCells hr' H (j * 41 + 39) [.bool true]
          go_wp2_with (first | refine wpList_load_mid rfl 47 (.tmp 85) rfl H (j * 41 + 6) rfl (sumA (E j).sm).toList (.array 32 5) hsum Yba.underlying47 rfl size47 ?_ | refine wpList_store_mid rfl 47 (.tmp 6) (.tmp 86) rfl (w.heap.size+1) 0 (sumA (E j).sm) rfl rfl ht size47 (sumA_one _) ?_ | fail)
          refine bodyPost_ret (v := .tuple #[.agg (sumA (E j).sm), .bool true]) (results_cell_tmp1 Yba.results16 _ _ _ (w.heap.size+1) rfl rfl (res_load _ _ (sumA (E j).sm) rfl ht)) rfl ⟨by rw [HH.out]; rfl, ?_⟩
          rw [HH.out]
          exact HA2.out.far (by omega) (by omega) (Nat.le_succ _) _
      · have hh : hit E n a s m = none := by simp only [hit, HA.out, Int.toNat_natCast]; exact if_neg (fun x => q2 x.2)
        go_wp2_with fail
        go_quiet (fail)
        have hr' : (Y.drewN nq).there (w.heap.size + 1) 0 32 := hr
        go_wp2_with (first | refine wpList_store_mid rfl 47 (.tmp 6) (.tmp 70) rfl (w.heap.size+1) 0 zeroA rfl rfl hr' size47 zeroA_one ?_ | fail)
        refine bodyPost_ret (v := .tuple #[.agg zeroA, .bool false]) (results_cell_tmp1 Yba.results16 _ _ _ (w.heap.size+1) rfl rfl (res_load (Y.drewN nq) _ zeroA rfl hr')) rfl ⟨by rw [hh]; rfl, ?_⟩
        rw [hh]
        exact (HSt.out.drewN nq).miss.far (by omega) (by omega) (Nat.le_succ _) _
    · have hh : hit E n a s m = none := by simp only [hit, HA.out, Int.toNat_natCast]; exact if_neg (fun x => q1 x.1)
      go_wp2_with fail
      go_quiet (fail)
      have hr' : (Y.drewN nq).there (w.heap.size + 1) 0 32 := hr
      go_wp2_with (first | refine wpList_store_mid rfl 47 (.tmp 6) (.tmp 70) rfl (w.heap.size+1) 0 zeroA rfl rfl hr' size47 zeroA_one ?_ | fail)
      refine bodyPost_ret (v := .tuple #[.agg zeroA, .bool false]) (results_cell_tmp1 Yba.results16 _ _ _ (w.heap.size+1) rfl rfl (res_load (Y.drewN nq) _ zeroA rfl hr')) rfl ⟨by rw [hh]; rfl, ?_⟩
      rw [hh]
      exact (HSt.out.drewN nq).miss.far (by omega) (by omega) (Nat.le_succ _) _

end Go.Proofs.Ybulkbpk
