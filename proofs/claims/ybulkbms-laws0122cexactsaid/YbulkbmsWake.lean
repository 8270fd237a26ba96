import Derived.Test.YbulkbmsWalks
import Derived.Deep.RegionHeld3
import Derived.Deep.QuietTactic
import Derived.BigQuiet
namespace Go.Proofs.Ybulkbms
open Go.RowKit
theorem al {w : World} {a : Addr} {v : Value} (h : w.cell? a = some v) (o : Obj) : (w.alloc o).cell? a = some v :=
  cell_later ((Below.refl _ _).alloc (Nat.le_refl _) o) h
theorem dr {w : World} {a : Addr} {v : Value} (h : w.cell? a = some v) : w.drew.cell? a = some v := h

/-- What 'at' and 'ok' hold behind the k-th deadline (p: it is pending; t: its time). -/
def st (nw : Int) (p : Nat → Bool) (t : Nat → Int) : Nat → Int × Bool
  | 0 => (0, false)
  | k + 1 => if p k = true ∧ nw < t k then (if (st nw p t k).2 = false ∨ t k < (st nw p t k).1 then (t k, true) else st nw p t k) else st nw p t k
def pd (s0 s1 dn : Bool) : Nat → Bool | 0 => !s0 | 1 => !s1 | _ => !dn
def tm (dl : Int) : Nat → Int | 0 => IntKind.i64.wrap (3 * dl) | 1 => IntKind.i64.wrap (6 * dl) | _ => IntKind.i64.wrap (7 * dl)

/-- What holds at each round's head. -/
structure WInv (w wr : World) (nw : Int) (p : Nat → Bool) (t : Nat → Int) (k : Nat) : Prop where
  ca : wr.cell? ⟨w.heap.size, 0, none⟩ = some (.int .i64 (st nw p t k).1)
  co : wr.cell? ⟨w.heap.size + 1, 0, none⟩ = some (.bool (st nw p t k).2)
  fa : wr.frozen? ⟨w.heap.size, 0, none⟩ = false
  fo : wr.frozen? ⟨w.heap.size + 1, 0, none⟩ = false
  cp : ∀ j, j < 3 → wr.cell? ⟨w.heap.size + 1 + 1, j * 2, none⟩ = some (.bool (p j))
  ct : ∀ j, j < 3 → wr.cell? ⟨w.heap.size + 1 + 1, j * 2 + 1, none⟩ = some (.int .i64 (t j))
  sz : w.heap.size + 1 + 1 < wr.heap.size
  bl : Below w.heap.size w wr

/-- What 'consider(t)' does to the world: A: where 'at' lies; O: where 'ok' lies. -/
def upd (w : World) (A O : Nat) (a : Int) (o : Bool) (t : Int) : World :=
  if o = false ∨ t < a then (w.setCell ⟨A, 0, none⟩ (.int .i64 t)).setCell ⟨O, 0, none⟩ (.bool true) else w

set_option maxHeartbeats 400000 in
theorem consider_any (A O : Nat) (a t : Int) (o : Bool) (w : World) (hne : A ≠ O) (ca : w.cell? ⟨A, 0, none⟩ = some (.int .i64 a)) (co : w.cell? ⟨O, 0, none⟩ = some (.bool o))
    (fa : w.frozen? ⟨A, 0, none⟩ = false) (fo : w.frozen? ⟨O, 0, none⟩ = false) :
    Calls Yba.prog 8 #[.int .i64 t, .pointer (some ⟨O, 0, none⟩), .pointer (some ⟨A, 0, none⟩)] w fun e w' => e = .returned (.tuple #[]) ∧ upd w A O a o t = w' := by
  have hne' := Ne.symm hne
  cases o
  · go_enter Yba.func8, Yba.ntmps8
    go_wp2
    go_end0
    exact ⟨rfl, by simp [upd]⟩
  · by_cases hta : t < a
    · go_enter Yba.func8, Yba.ntmps8
      go_wp2
      go_end0
      exact ⟨rfl, by simp [upd, hta]⟩
    · go_enter Yba.func8, Yba.ntmps8
      go_wp2
      go_end0
      exact ⟨rfl, by rw [upd, if_neg (by simp; omega)]⟩

theorem cso {w : World} {a b : Addr} {v : Value} (h : a.block ≠ b.block) : (w.setCell a v).cell? b = w.cell? b :=
  World.cell?_setCell_other _ _ _ _ (fun e => h (by rw [e]))
theorem css {w : World} {a : Addr} {u v : Value} (h : w.cell? a = some u) : (w.setCell a v).cell? a = some v :=
  World.cell?_setCell_same _ _ _ h
theorem WInv.alloc {w wr : World} {nw : Int} {p : Nat → Bool} {t : Nat → Int} {k : Nat} (h : WInv w wr nw p t k) (o : Obj) : WInv w (wr.alloc o) nw p t k := by
  obtain ⟨ca, co, fa, fo, cp, ct, sz, bl⟩ := h
  refine ⟨al ca o, al co o, ?_, ?_, fun j hj => al (cp j hj) o, fun j hj => al (ct j hj) o, by simp; omega, bl.alloc (by omega) o⟩
  · rw [World.frozen?_alloc_past _ _ _ (by omega)]; exact fa
  · rw [World.frozen?_alloc_past _ _ _ (by omega)]; exact fo
theorem WInv.drewN {w wr : World} {nw : Int} {p : Nat → Bool} {t : Nat → Int} {k : Nat} (h : WInv w wr nw p t k) (n : Nat) : WInv w (wr.drewN n) nw p t k := by
  obtain ⟨ca, co, fa, fo, cp, ct, sz, bl⟩ := h
  exact ⟨ca, co, fa, fo, cp, ct, sz, bl.os, bl.tape, bl.output, bl.size, bl.block⟩
theorem WInv.no {w wr : World} {nw : Int} {p : Nat → Bool} {t : Nat → Int} {k : Nat} (h : WInv w wr nw p t k) (hn : ¬ (p k = true ∧ nw < t k)) : WInv w wr nw p t (k + 1) := by
  obtain ⟨ca, co, fa, fo, cp, ct, sz, bl⟩ := h
  have e : st nw p t (k + 1) = st nw p t k := by rw [st, if_neg hn]
  exact ⟨by rw [e]; exact ca, by rw [e]; exact co, fa, fo, cp, ct, sz, bl⟩
theorem WInv.yes {w wr : World} {nw : Int} {p : Nat → Bool} {t : Nat → Int} {k : Nat} (h : WInv w wr nw p t k) (hn : p k = true ∧ nw < t k) :
    WInv w (upd wr w.heap.size (w.heap.size + 1) (st nw p t k).1 (st nw p t k).2 (t k)) nw p t (k + 1) := by
  obtain ⟨ca, co, fa, fo, cp, ct, sz, bl⟩ := h
  unfold upd
  by_cases hc : (st nw p t k).2 = false ∨ t k < (st nw p t k).1
  · have e : st nw p t (k + 1) = (t k, true) := by rw [st, if_pos hn, if_pos hc]
    rw [if_pos hc]
    refine ⟨?_, ?_, by simpa using fa, by simpa using fo, fun j hj => ?_, fun j hj => ?_, by simpa using sz, (bl.setCell (Nat.le_refl _) _).setCell (by simp) _⟩
    · rw [cso (by simp), css ca, e]
    · rw [e]; exact css (u := .bool (st nw p t k).2) (by rw [cso (by simp)]; exact co)
    · rw [cso (by simp), cso (by simp; omega)]; exact cp j hj
    · rw [cso (by simp), cso (by simp; omega)]; exact ct j hj
  · have e : st nw p t (k + 1) = st nw p t k := by rw [st, if_pos hn, if_neg hc]
    rw [if_neg hc]
    exact ⟨by rw [e]; exact ca, by rw [e]; exact co, fa, fo, cp, ct, sz, bl⟩

theorem winv_start (w : World) (dl nw : Int) (s0 s1 dn : Bool) : WInv w
    (((w.alloc (Obj.cells #[Value.int IntKind.i64 0] 2)).alloc (Obj.cells #[Value.bool false] 4)).alloc
      (Obj.cells #[Value.bool !s0, Value.int IntKind.i64 (IntKind.i64.wrap (3 * dl)), Value.bool !s1, Value.int IntKind.i64 (IntKind.i64.wrap (6 * dl)), Value.bool !dn, Value.int IntKind.i64 (IntKind.i64.wrap (7 * dl))] 59)).drew
    nw (pd s0 s1 dn) (tm dl) 0 := by
  refine ⟨?_, ?_, ?_, ?_, fun j hj => ?_, fun j hj => ?_, by simp, ?_⟩
  · (go_simp; try rfl)
  · (go_simp; try rfl)
  · go_simp
  · go_simp
  · rcases (show j = 0 ∨ j = 1 ∨ j = 2 by omega) with rfl | rfl | rfl <;> (go_simp; simp [pd])
  · rcases (show j = 0 ∨ j = 1 ∨ j = 2 by omega) with rfl | rfl | rfl <;> (go_simp; try rfl)
  · exact ((((Below.refl _ _).alloc (Nat.le_refl _) _).alloc (by simp) _).alloc (by simp; omega) _).drew

set_option maxHeartbeats 1000000 in
theorem wake_any (B B1 B2 : Nat) (dl nw : Int) (s0 s1 dn : Bool) (w : World) (h : IsParty w B B1 B2 dl nw s0 s1 dn) :
    Calls Yba.prog 6 #[.pointer (some ⟨B, 0, none⟩)] w fun e w' => e = .returned (.tuple #[.int .i64 (st nw (pd s0 s1 dn) (tm dl) 3).1, .bool (st nw (pd s0 s1 dn) (tm dl) 3).2]) ∧ Below w.heap.size w w' := by
  obtain ⟨c3, c8, c9, c10, c15, c16, c18, g1, g2, l0, l1, l2⟩ := h
  go_enter Yba.func6, Yba.ntmps6
  go_wp2_with fail
  refine (group1_any B1 _ g1).mono ?_
  rintro e w' ⟨rfl, rfl⟩
  go_wp2_with fail
  refine (group2_any B2 _ ?_).mono ?_
  · go_simp
  rintro e w' ⟨rfl, rfl⟩
  go_wp2_with fail
  go_region_held3 (fun w' => w'.cell? ⟨B, 3, none⟩ = some (.int .i64 dl) ∧ w'.cell? ⟨B, 15, none⟩ = some (.bool s0) ∧ w'.cell? ⟨B, 16, none⟩ = some (.bool s1) ∧ w'.cell? ⟨B, 18, none⟩ = some (.bool dn)) (first | exact ⟨dr (al (al c3 _) _), dr (al (al c15 _) _), dr (al (al c16 _) _), dr (al (al c18 _) _)⟩ | exact ⟨dr (al (al (al c3 _) _) _), dr (al (al (al c15 _) _) _), dr (al (al (al c16 _) _) _), dr (al (al (al c18 _) _) _)⟩) (fail)
  go_wp2_with fail
  go_loopw [70] (fun i wr => ∃ k : Nat, k ≤ 3 ∧ i = .int .i64 k ∧ WInv w wr nw (pd s0 s1 dn) (tm dl) k) (fun i _ => 3 - (intOf i).toNat)
  case atStart => exact ⟨0, by omega, rfl, winv_start _ _ _ _ _ _⟩
  case round =>
    obtain ⟨k, hk, rfl, hI⟩ := hrel
    have HI : Hid (WInv w wr nw (pd s0 s1 dn) (tm dl) k) := hI
    have c8' := cell_later hI.bl c8
    have hB : B < wr.heap.size := by have := hI.bl.size; omega
    obtain ⟨ca, co, fa, fo, cp, ct, sz, bl⟩ := hI
    by_cases hlt : k < 3
    · have cpk := cp k hlt
      have ctk := ct k hlt
      clear cp ct c3 c8 c9 c10 c15 c16 c18 g1 g2 l1 l2
      by_cases hp : pd s0 s1 dn k = true
      · by_cases hn : nw < tm dl k
        · have HY : Hid (pd s0 s1 dn k = true ∧ nw < tm dl k) := ⟨hp, hn⟩
          go_wp2_with fail
          go_quiet (fail)
          go_wp2_with fail
          have I := (HI.out.alloc (Obj.cells #[Value.bool true, Value.int IntKind.i64 (tm dl k)] 59)).drewN nq
          have J := I.yes HY.out
          refine (consider_any w.heap.size (w.heap.size + 1) _ _ _ _ (by simp) I.ca I.co I.fa I.fo).mono ?_
          rintro e w' ⟨rfl, hw'⟩
          rw [hw'] at J
          clear I ca co fa fo cpk ctk hp hn hw'
          go_wp2_with fail
          go_roundw
          case rel => exact ⟨k + 1, by omega, by go_num, J⟩
          case measure => simp [intOf]; omega
        · have hn' : decide (nw < tm dl k) = false := by simpa using hn
          have HY : Hid (¬ (pd s0 s1 dn k = true ∧ nw < tm dl k)) := fun h => hn h.2
          go_wp2_with fail
          go_quiet (fail)
          have J := ((HI.out.alloc (Obj.cells #[Value.bool true, Value.int IntKind.i64 (tm dl k)] 59)).drewN nq).no HY.out
          go_wp2_with fail
          go_roundw
          case rel => exact ⟨k + 1, by omega, by go_num, J⟩
          case measure => simp [intOf]; omega
      · have hp' : pd s0 s1 dn k = false := by simpa using hp
        have HY : Hid (¬ (pd s0 s1 dn k = true ∧ nw < tm dl k)) := fun h => hp h.1
        clear hp
        go_wp2_with fail
        go_quiet (fail)
        have J := ((HI.out.alloc (Obj.cells #[Value.bool false, Value.int IntKind.i64 (tm dl k)] 59)).drewN nq).no HY.out
        go_wp2_with fail
        go_roundw
        case rel => exact ⟨k + 1, by omega, by go_num, J⟩
        case measure => simp [intOf]; omega
    · have hk3 : k = 3 := by omega
      subst hk3
      clear cp ct c3 c8 c9 c10 c15 c16 c18 g1 g2 l1 l2
      go_wp2_with fail
      go_quiet (fail)
      go_wp2_with fail
      go_ret2
      exact ⟨rfl, (HI.out.drewN nq).bl⟩
end Go.Proofs.Ybulkbms
