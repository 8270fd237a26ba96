import Derived.Test.YbulkbpkCModel
namespace Go.Proofs.Ybulkbpk
open Go.RowKit Go.Maps
theorem wrap_u64 (k : Nat) (hk : k ≤ 1024) : IntKind.u64.wrap (k : Int) = k := by
  simp [IntKind.wrap, IntKind.bits, IntKind.signed]; omega
theorem wrap_i64 (x : Int) (h1 : -128 ≤ x) (h2 : x ≤ 127) : IntKind.i64.wrap x = x := by
  simp [IntKind.wrap, IntKind.bits, IntKind.signed]; omega
theorem rng_later {w wx : World} {b o : Nat} {cs : List Value} (hb : Below w.heap.size w wx) (h : w.rangeAt b o cs) : wx.rangeAt b o cs := fun j v hv => cell_later hb (h j v hv)
theorem rng_drw {w : World} {b o : Nat} {cs : List Value} (h : w.rangeAt b o cs) : w.drew.rangeAt b o cs := h
/-- A stat in a variable of its own. -/
structure StAt (wr wx : World) (P : Nat) (e : Ent) : Prop where
  bel : Below wr.heap.size wr wx
  t0 : wx.cell? ⟨P, 0, none⟩ = some (.int .u64 (e.dv % 2))
  t1 : wx.cell? ⟨P, 1, none⟩ = some (.int .u64 (e.io % 3))
  t2 : wx.cell? ⟨P, 2, none⟩ = some (.int .i64 (e.sz % 2))
  t3 : wx.cell? ⟨P, 3, none⟩ = some (.int .i64 (e.mt % 2))
  t4 : wx.cell? ⟨P, 4, none⟩ = some (.int .i64 0)
theorem st_new1 (wr : World) (e : Ent) (o : Obj) : StAt wr ((wr.alloc o).alloc (.cells #[.int .u64 (e.dv % 2), .int .u64 (e.io % 3), .int .i64 (e.sz % 2), .int .i64 (e.mt % 2), .int .i64 0] 43)).drew (wr.heap.size + 1) e := by
  refine ⟨below_drw (below_al (below_al (Below.refl _ _) _) _), ?_, ?_, ?_, ?_, ?_⟩ <;> go_simp
theorem st_new2 (wr : World) (e : Ent) (o : Obj) : StAt wr ((wr.alloc (.cells #[.int .u64 (e.dv % 2), .int .u64 (e.io % 3), .int .i64 (e.sz % 2), .int .i64 (e.mt % 2), .int .i64 0] 43)).alloc o).drew wr.heap.size e := by
  refine ⟨below_drw (below_al (below_al (Below.refl _ _) _) _), ?_, ?_, ?_, ?_, ?_⟩ <;> go_simp
/-- What the marks 'gone' come to. -/
theorem gsF_true (E : Nat → Ent) (k m : Nat) (h1 : k < m) (hg : (E m).gn = false) (hid : (idOf (E m)).1 = (idOf (E k)).1) : ∀ n, m < n → gsF E n k = true := fun n hn =>
  gsF_mono E k (m + 1) (if_pos ⟨h1, hg, hid⟩) n (by omega)
theorem gsF_false (E : Nat → Ent) (k : Nat) (hk : (E k).gn = false) : ∀ n, (∀ m, k < m → m < n → ¬ ((E m).gn = false ∧ (idOf (E m)).1 = (idOf (E k)).1)) → gsF E n k = false
  | 0, _ => hk
  | n + 1, h => by
    show (if _ then _ else _) = _
    rw [if_neg (fun e => h n e.1 (Nat.lt_succ_self n) e.2)]
    exact gsF_false E k hk n (fun m h1 h2 => h m h1 (by omega))
theorem StAt.later {wr wx wy : World} {P : Nat} {e : Ent} (h : StAt wr wx P e) (hb : Below wx.heap.size wx wy) : StAt wr wy P e := ⟨below2 h.bel hb, cell_later hb h.t0, cell_later hb h.t1, cell_later hb h.t2, cell_later hb h.t3, cell_later hb h.t4⟩
/-- What stands behind the look-up, and through all the rounds. -/
structure EF (w wr : World) (a : Option Addr) (n B H : Nat) (E : Nat → Ent) (h : Option Nat) : Prop where
  src0 : SrcE w a n E
  bel : Below w.heap.size w wr
  c2 : wr.cell? ⟨B, 2, none⟩ = some (.slice (some ⟨H, 0, none⟩) n n)
  ents : ∀ j, j < n → SE wr H j (E j) (plF E h j) (usF E h j) (gsF E n j)
theorem EF.later {w wr wx : World} {a : Option Addr} {n B H : Nat} {E : Nat → Ent} {h : Option Nat} (f : EF w wr a n B H E h) (hb : Below wr.heap.size wr wx) : EF w wx a n B H E h :=
  ⟨f.src0, below2 f.bel hb, cell_later hb f.c2, fun j hj => (f.ents j hj).below hb (f.ents j hj).lt⟩
theorem ef_start {w Y Z : World} {a : Option Addr} {n B H T : Nat} {E : Nat → Ent} {q : Id} {s m : Int} {h : Option Nat} (hM : MS w Y a n B H T E q s m) (hA : Aft 0 Y Z B H n E h) (cs : List Value) :
    EF w ((Z.alloc (.cells zeroA 47)).setCells Z.heap.size 0 cs) a n B H E h := by
  have h1 := hM.bel
  have h2 := hA.bel
  have e1 := hM.hHB
  have e2 := hM.hwH
  obtain ⟨mp, hc⟩ := hA.cache
  have hw : Below w.heap.size w Z := h1.trans (h2.below h1.size (by omega) (by omega))
  have hb : Below Z.heap.size Z ((Z.alloc (.cells zeroA 47)).setCells Z.heap.size 0 cs) := below_setCells (below_al (Below.refl _ _) _) (Nat.le_refl _) _ _
  exact ⟨hM.src0, below2 hw hb, cell_later hb hc.c2, fun j hj => (hA.ents j hj).below hb (hA.ents j hj).lt⟩
theorem hit_iff (E : Nat → Ent) (n : Nat) (q : Id) (s m : Int) (k : Nat) : hit E n q s m = some k ↔ ((k : Int) = (atF E n q).getD (-1) ∧ (hit E n q s m).isSome = true) := by
  cases hat : atF E n q with
  | none => simp [hit, hat]
  | some x =>
    obtain ⟨j, rfl, _⟩ := atF_some E q n hat
    have e : hit E n q s m = if (E j).sz % 2 = s ∧ (E j).mt % 2 = m then some j else none := by simp only [hit, hat, Int.toNat_natCast]
    rw [e]
    by_cases c : (E j).sz % 2 = s ∧ (E j).mt % 2 = m
    · simp [c]; omega
    · simp [c]
theorem us_of {E : Nat → Ent} {h : Option Nat} {k : Nat} {J : Int} {ok : Bool} (hj : h = some k ↔ ((k : Int) = J ∧ ok = true)) : usF E h k = ((E k).us || (((k : Int) == J) && ok)) := by
  unfold usF
  congr 1
  rw [Bool.eq_iff_iff, decide_eq_true_iff, hj]
  simp
theorem pl_of {E : Nat → Ent} {h : Option Nat} {k : Nat} {J : Int} {ok : Bool} (hj : h = some k ↔ ((k : Int) = J ∧ ok = true)) : plF E h k = if (((k : Int) == J) && ok) && decide ((E k).pl < 0) then -1 else (E k).pl := by
  unfold plF
  by_cases c : h = some k ∧ (E k).pl < 0
  · have h1 := hj.1 c.1
    rw [if_pos c, if_pos (by simp [h1.1, h1.2, c.2])]
  · rw [if_neg c, if_neg]
    intro e
    simp at e
    exact c ⟨hj.2 ⟨e.1.1, e.1.2⟩, e.2⟩
end Go.Proofs.Ybulkbpk
