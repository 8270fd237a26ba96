import Derived.Test.YbulkboiAdd
import Derived.Laws.IdiomCopy
import Derived.Deep.QuietTactic
import Derived.BigQuiet
namespace Go.Proofs.Ybulkboi
open Go.RowKit Pl

theorem Yba.size28 : (Yba.prog.info? 28).map (·.size) = some 1 := by kernel_rfl
theorem Wrote.setCells {b : Nat} {w : World} : ∀ (vs : List Value) (o : Nat) (w' : World), Wrote b w w' → Wrote b w (w'.setCells b o vs)
  | [], _, _, h => h
  | v :: r, o, w', h => Wrote.setCells r (o + 1) (w'.setCell ⟨b, o, none⟩ v) (h.setCell o v)

/-- 'copy(r, z)', both of n words. -/
theorem copy_row (w : World) (g b n cg cb : Nat) (f z : Nat → Int) (hg : Row w g n f) (hb : Row w b n z) :
    ∃ w', (∀ ty, (Builtin.copy_ #[22, 22] ty #[.slice (some ⟨g, 0, none⟩) n cg, .slice (some ⟨b, 0, none⟩) n cb]).run Yba.prog w = .ok (.int .i64 n) w') ∧ Row w' g n z ∧ Wrote g w w' := by
  have hl : ((List.range n).map fun i => Value.int .u64 (z i)).length = n := by simp
  refine ⟨w.setCells g 0 ((List.range n).map fun i => .int .u64 (z i)), fun ty => ?_, ⟨fun i hi => ?_, fun i hi => ?_, ?_⟩, Wrote.setCells _ _ _ (Wrote.refl _ _)⟩
  · rw [run_copy_cells w 22 22 ty 28 g 0 n cg ⟨b, 0, none⟩ n cb ((List.range n).map fun i => .int .u64 (z i)) Yba.underlying22 Yba.size28 (by simp) ?_ ?_ ?_ ?_, hl]
    · rfl
    · intro j v hj
      rw [List.getElem?_map] at hj
      by_cases hjn : j < n
      · rw [List.getElem?_range hjn] at hj
        simp at hj
        rw [← hj]
        have hc := hb.cell j hjn
        unfold Addr.add
        by_cases hj0 : j = 0
        · subst hj0; simpa using hc
        · simpa [hj0] using hc
      · rw [List.getElem?_eq_none (by simp; omega)] at hj
        simp at hj
    · intro j hj
      rw [hl] at hj
      simp [hg.cell j hj]
    · intro j hj
      rw [hl] at hj
      simpa using hg.free j hj
    · intro v hv
      simp at hv
      obtain ⟨i, _, rfl⟩ := hv
      rfl
  · have := World.cell?_setCells_in g ((List.range n).map fun i => Value.int .u64 (z i)) 0 w (fun j hj => by rw [hl] at hj; simp [hg.cell j hj]) i (by rw [hl]; exact hi)
    simpa using this
  · rw [World.frozen?_setCells]; exact hg.free i hi
  · rw [(Wrote.setCells _ _ _ (Wrote.refl g w)).size]; exact hg.lt

theorem wr_lo (a b : Int) : IntKind.u64.wrap (a + b) = lo a b 0 := by rw [IntKind.wrap_u64]; unfold lo M; omega
theorem wr_lo0 (a x : Int) (h : x = 0) : IntKind.u64.wrap a = lo a x 0 := by rw [IntKind.wrap_u64, h]; unfold lo M; omega
theorem closeYes {r x c S : Int} (hr : Wd r) (hx : Wd x) (hc : c = 0 ∨ c = 1) (hS : S = lo r x 0) (h : S < r ∨ IntKind.u64.wrap (S + c) < S) : 1 = hi r x c ∧ IntKind.u64.wrap (S + c) = lo r x c := by
  rw [wr_lo, hS] at *
  exact ⟨((md_carry hr hx hc).1 h).symm, md_sum r x c⟩
theorem closeNo {r x c S : Int} (hr : Wd r) (hx : Wd x) (hc : c = 0 ∨ c = 1) (hS : S = lo r x 0) (h : r ≤ S ∧ S ≤ IntKind.u64.wrap (S + c)) : 0 = hi r x c ∧ IntKind.u64.wrap (S + c) = lo r x c := by
  rw [wr_lo, hS] at *
  refine ⟨?_, md_sum r x c⟩
  rcases hi_01 hr hx hc with e | e
  · exact e.symm
  · have := (md_carry hr hx hc).2 e; omega
theorem incYes {d : Int} (hd : Wd d) (h : IntKind.u64.wrap (d + 1) ≠ 0) : 0 = hi d 1 0 := by
  rw [IntKind.wrap_u64] at h; unfold Wd M at hd; unfold hi M; omega
theorem incNo {d : Int} (hd : Wd d) (h : IntKind.u64.wrap (d + 1) = 0) : 1 = hi d 1 0 := by
  rw [IntKind.wrap_u64] at h; unfold Wd M at hd; unfold hi M; omega

set_option maxHeartbeats 1000000 in
theorem model_any (bz bx n nx cz cx : Nat) (z x : Nat → Int) (w : World) (hnx : nx ≤ n) (hn : n ≤ 1024) (hzw : ∀ i, Wd (z i)) (hxw : ∀ i, Wd (x i)) (hx0 : ∀ i, nx ≤ i → x i = 0) (hz : Row w bz n z) (hx : Row w bx nx x) :
    Calls Yba.prog 6 #[.slice (some ⟨bz, 0, none⟩) n cz, .slice (some ⟨bx, 0, none⟩) nx cx] w fun e w' => e = .returned (.slice (some ⟨w.heap.size, 0, none⟩) n n) ∧ Row w' w.heap.size n (fin z x n) ∧ w'.heap.size = w.heap.size + 1 ∧ Below w.heap.size w w' := by
  have hmk := run_make_row' (P := Yba.prog) 22 28 (.int .u64 0) 8 Yba.underlying22 Yba.info28 rfl .i64 .i64 n (by omega) (by omega)
  have hbl := (Below.refl w.heap.size w).alloc (Nat.le_refl _) (.cells (madeCells #[.int .u64 0] n) 28)
  obtain ⟨w2, hcp, hR2, hW2⟩ := copy_row (w.alloc (.cells (madeCells #[.int .u64 0] n) 28)) w.heap.size bz n n cz (fun _ => 0) z (Row.made _ _ _ (fun i hi => rfl)) (hz.below hbl hz.lt)
  have HB2 := hide (hbl.trans (hW2.below w.heap.size (Nat.le_refl _)))
  have HZ2 : Hid (w2.heap.size = w.heap.size + 1) := by rw [hW2.size]; simp [Hid]
  have HR2 := hide hR2
  have HX0 := hide hx0
  clear hbl hR2 hW2 hx0 hz
  go_enter Yba.func6, Yba.ntmps6
  go_wp2_with fail
  clear hmk hcp
  go_loopw [7, 8] (fun c i wr => ∃ (k : Nat) (cv : Int), k ≤ n ∧ i = .int .i64 k ∧ c = .int .u64 cv ∧ Hid (cv = car z x k) ∧ Hid (Row wr w.heap.size n (upto k (dig z x) z)) ∧ Hid (wr.heap.size = w.heap.size + 1) ∧ Hid (Below w.heap.size w wr)) (fun _ i _ => n - (intOf i).toNat)
  case atStart => exact ⟨0, _, Nat.zero_le _, rfl, rfl, hide rfl, HR2.out.congr (fun i _ => rfl), HZ2, HB2⟩
  case round =>
    obtain ⟨k, cv, hk, rfl, rfl, HC, HR, HZ, HB⟩ := hrel
    by_cases hlt : k < n
    · have cr := HR.out.cell k hlt
      have fr := HR.out.free k hlt
      rw [upto_at] at cr
      have HV : Hid (cv = 0 ∨ cv = 1) := by rw [HC.out]; exact car_01 hzw hxw k
      have HE : Hid (hi (z k) (x k) cv = car z x (k + 1)) := by rw [HC.out]; exact rfl
      have HD : Hid (lo (z k) (x k) cv = dig z x k) := by rw [HC.out]; exact rfl
      by_cases hkx : k < nx
      · have cx' := (hx.below HB.out hx.lt).cell k hkx
        go_wp2_with fail
        all_goals
          go_roundw
          case rel =>
            first
              | (have hh : IntKind.u64.wrap (z k + x k) < z k ∨ IntKind.u64.wrap (IntKind.u64.wrap (z k + x k) + cv) < IntKind.u64.wrap (z k + x k) := by assumption
                 obtain ⟨e1, e2⟩ := closeYes (hzw k) (hxw k) HV.out (wr_lo _ _) hh
                 exact ⟨k + 1, _, by omega, by go_num, rfl, e1.trans (HE.out), HR.out.set k _ (upto_step _ _ _ _ (e2.trans HD.out)), by simpa [Hid] using HZ.out, HB.out.setCell (Nat.le_refl _) _⟩)
              | (have hh : z k ≤ IntKind.u64.wrap (z k + x k) ∧ IntKind.u64.wrap (z k + x k) ≤ IntKind.u64.wrap (IntKind.u64.wrap (z k + x k) + cv) := by assumption
                 obtain ⟨e1, e2⟩ := closeNo (hzw k) (hxw k) HV.out (wr_lo _ _) hh
                 exact ⟨k + 1, _, by omega, by go_num, rfl, e1.trans (HE.out), HR.out.set k _ (upto_step _ _ _ _ (e2.trans HD.out)), by simpa [Hid] using HZ.out, HB.out.setCell (Nat.le_refl _) _⟩)
              | (have hh : ¬ z k ≤ IntKind.u64.wrap (z k + x k) := by assumption
                 obtain ⟨e1, e2⟩ := closeYes (hzw k) (hxw k) HV.out (wr_lo _ _) (Or.inl (by omega))
                 exact ⟨k + 1, _, by omega, by go_num, rfl, e1.trans (HE.out), HR.out.set k _ (upto_step _ _ _ _ (e2.trans HD.out)), by simpa [Hid] using HZ.out, HB.out.setCell (Nat.le_refl _) _⟩)
          case measure => simp [intOf]; omega
      · go_wp2_with fail
        all_goals
          go_roundw
          case rel =>
            first
              | (have hh : IntKind.u64.wrap (z k) < z k ∨ IntKind.u64.wrap (IntKind.u64.wrap (z k) + cv) < IntKind.u64.wrap (z k) := by assumption
                 obtain ⟨e1, e2⟩ := closeYes (hzw k) (hxw k) HV.out (wr_lo0 _ _ (HX0.out k (by omega))) hh
                 exact ⟨k + 1, _, by omega, by go_num, rfl, e1.trans (HE.out), HR.out.set k _ (upto_step _ _ _ _ (e2.trans HD.out)), by simpa [Hid] using HZ.out, HB.out.setCell (Nat.le_refl _) _⟩)
              | (have hh : z k ≤ IntKind.u64.wrap (z k) ∧ IntKind.u64.wrap (z k) ≤ IntKind.u64.wrap (IntKind.u64.wrap (z k) + cv) := by assumption
                 obtain ⟨e1, e2⟩ := closeNo (hzw k) (hxw k) HV.out (wr_lo0 _ _ (HX0.out k (by omega))) hh
                 exact ⟨k + 1, _, by omega, by go_num, rfl, e1.trans (HE.out), HR.out.set k _ (upto_step _ _ _ _ (e2.trans HD.out)), by simpa [Hid] using HZ.out, HB.out.setCell (Nat.le_refl _) _⟩)
              | (have hh : ¬ z k ≤ IntKind.u64.wrap (z k) := by assumption
                 obtain ⟨e1, e2⟩ := closeYes (hzw k) (hxw k) HV.out (wr_lo0 _ _ (HX0.out k (by omega))) (Or.inl (by omega))
                 exact ⟨k + 1, _, by omega, by go_num, rfl, e1.trans (HE.out), HR.out.set k _ (upto_step _ _ _ _ (e2.trans HD.out)), by simpa [Hid] using HZ.out, HB.out.setCell (Nat.le_refl _) _⟩)
          case measure => simp [intOf]; omega
    · have hkn : k = n := by omega
      subst hkn
      clear hlt hx
      go_wp2_with fail
      go_loopw [7, 14] (fun c i wr => ∃ (j : Nat) (cv : Int), j ≤ k ∧ i = .int .i64 j ∧ c = .int .u64 cv ∧ Hid (cv = c2 z x k j) ∧ Hid (Row wr w.heap.size k (upto j (fin z x k) (dig z x))) ∧ Hid (wr.heap.size = w.heap.size + 1) ∧ Hid (Below w.heap.size w wr)) (fun _ i _ => k - (intOf i).toNat)
      case atStart => exact ⟨0, _, Nat.zero_le _, rfl, rfl, HC, HR.out.congr (fun i hi => by unfold upto; rw [if_neg (by omega), if_pos hi]), HZ, HB⟩
      case round =>
        clear HC HR HZ HB HR2 HZ2 HB2
        obtain ⟨j, cv, hj, rfl, rfl, HC, HR, HZ, HB⟩ := hrel
        by_cases hjk : j < k
        · rcases (show cv = 0 ∨ cv = 1 by rw [HC.out]; exact c2_01 hzw hxw k j) with rfl | rfl
          · have HF : Hid (Row wr w.heap.size k (fin z x k)) := by
              refine HR.out.congr fun i hi => ?_
              unfold upto
              by_cases e : i < j
              · rw [if_pos e]
              · rw [if_neg e]; exact fin_stop k j i (by omega) HC.out.symm
            go_wp2_with fail
            go_ret
            exact ⟨rfl, HF.out, HZ.out, HB.out⟩
          · have cr := HR.out.cell j hjk
            have fr := HR.out.free j hjk
            rw [upto_at] at cr
            have HD : Hid (IntKind.u64.wrap (dig z x j + 1) = fin z x k j) := by unfold Hid fin; rw [← HC.out]; exact wr_lo _ _
            have HE : Hid (hi (dig z x j) 1 0 = c2 z x k (j + 1)) := by unfold Hid c2; rw [← HC.out]
            by_cases hw : IntKind.u64.wrap (dig z x j + 1) = 0
            · have HW := hide (incNo (dig_wd z x j) hw)
              have hb : (IntKind.u64.wrap (dig z x j + 1) != 0) = false := by rw [hw]; rfl
              clear hw
              go_wp2_with fail
              go_roundw
              case rel => exact ⟨j + 1, _, by omega, by go_num, rfl, HW.out.trans HE.out, HR.out.set j _ (upto_step _ _ _ _ HD.out), by simpa [Hid] using HZ.out, HB.out.setCell (Nat.le_refl _) _⟩
              case measure => simp [intOf]; omega
            · have HW := hide (incYes (dig_wd z x j) hw)
              have hb : (IntKind.u64.wrap (dig z x j + 1) != 0) = true := by simpa using hw
              clear hw
              go_wp2_with fail
              go_roundw
              case rel => exact ⟨j + 1, _, by omega, by go_num, rfl, HW.out.trans HE.out, HR.out.set j _ (upto_step _ _ _ _ HD.out), by simpa [Hid] using HZ.out, HB.out.setCell (Nat.le_refl _) _⟩
              case measure => simp [intOf]; omega
        · have hjn : j = k := by omega
          subst hjn
          have HF : Hid (Row wr w.heap.size j (fin z x j)) := HR.out.congr fun i hi => by unfold upto; rw [if_pos hi]
          go_wp2_with fail
          go_ret
          exact ⟨rfl, HF.out, HZ.out, HB.out⟩
end Go.Proofs.Ybulkboi
