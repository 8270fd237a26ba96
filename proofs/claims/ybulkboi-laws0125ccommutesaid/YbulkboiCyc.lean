import Derived.Test.YbulkboiAdd
namespace Go.Proofs.Ybulkboi
open Go.RowKit Pl

theorem one_wd : Wd 1 := by unfold Wd M; omega
set_option maxHeartbeats 1000000 in
theorem cyc_any (bz bx n nx cz cx : Nat) (z x : Nat → Int) (w : World) (hnx : nx ≤ n) (hn : n ≤ 1024) (hcz : n ≤ cz) (hne : bx ≠ bz) (hzw : ∀ i, Wd (z i)) (hxw : ∀ i, Wd (x i)) (hx0 : ∀ i, nx ≤ i → x i = 0) (hz : Row w bz n z) (hx : Row w bx nx x) :
    Calls Yba.prog 7 #[.slice (some ⟨bz, 0, none⟩) n cz, .slice (some ⟨bx, 0, none⟩) nx cx] w fun e w' => e = .returned (.tuple #[]) ∧ Row w' bz n (fin z x n) ∧ Wrote bz w w' := by
  have HX := hide hx0
  have HT := hide (addTo_any bz bx n nx cz cx z x w hnx hn hne hzw hxw hz hx)
  clear hx0 hz hx
  go_enter Yba.func7, Yba.ntmps7
  go_wp2_with fail
  refine HT.out.mono ?_
  rintro e w1 ⟨rfl, hR1, hW1⟩
  have HR1 := hide hR1
  have HW1 := hide hW1
  clear hR1 hW1
  go_wp2_with fail
  go_loopw [4, 5] (fun c i wr => ∃ (k : Nat) (cv : Int), nx ≤ k ∧ k ≤ n ∧ i = .int .i64 k ∧ c = .int .u64 cv ∧ Hid (cv = car z x k) ∧ Hid (Row wr bz n (upto k (dig z x) z)) ∧ Hid (Wrote bz w wr)) (fun _ i _ => n - (intOf i).toNat)
  case atStart => exact ⟨nx, _, Nat.le_refl _, hnx, rfl, rfl, hide rfl, HR1, HW1⟩
  case round =>
    obtain ⟨k, cv, hk1, hk2, rfl, rfl, HC, HR, HW⟩ := hrel
    rcases (show cv = 0 ∨ cv = 1 by rw [HC.out]; exact car_01 hzw hxw k) with rfl | rfl
    · have HF : Hid (Row wr bz n (fin z x n)) := by
        have hcn := car_stop hzw k n hk2 (fun j hj => HX.out j (by omega)) HC.out.symm
        refine HR.out.congr fun i hi => ?_
        rw [fin_stop n 0 i (Nat.zero_le _) hcn]
        unfold upto
        by_cases e : i < k
        · rw [if_pos e]
        · rw [if_neg e]; exact dig_stop hzw k i (by omega) (fun j hj => HX.out j (by omega)) HC.out.symm
      go_wp2_with fail
      refine wp_loop_rounds 1 ?_; rw [rounds_succ]
      go_wp2_with fail
      go_end0
      exact ⟨rfl, HF.out, HW.out⟩
    · by_cases hlt : k < n
      · have cz' := HR.out.cell k (by omega)
        have fz := HR.out.free k (by omega)
        rw [upto_at] at cz'
        have HA := hide (add_any (z k) 1 0 (hzw k) one_wd (Or.inl rfl))
        go_wp2_with fail
        refine (HA.out _).mono ?_
        rintro e w' ⟨rfl, rfl⟩
        go_wp2_with fail
        go_roundw
        case rel =>
          have e1 : hi (z k) 1 0 = car z x (k + 1) := by unfold car; rw [HX.out k hk1, ← HC.out]; exact hi_swap _ _
          have e2 : lo (z k) 1 0 = dig z x k := by unfold dig; rw [HX.out k hk1, ← HC.out]; exact lo_swap _ _
          exact ⟨k + 1, _, by omega, by omega, by go_num, rfl, e1, HR.out.set k _ (upto_step _ _ _ _ e2), HW.out.setCell _ _⟩
        case measure => simp [intOf]; omega
      · have hkn : k = n := by omega
        subst hkn
        clear hlt
        go_wp2_with fail
        go_loopw [4, 6] (fun c i wr => ∃ (j : Nat) (cv : Int), j ≤ k ∧ i = .int .i64 j ∧ c = .int .u64 cv ∧ Hid (cv = c2 z x k j) ∧ Hid (Row wr bz k (upto j (fin z x k) (dig z x))) ∧ Hid (Wrote bz w wr)) (fun _ i _ => k - (intOf i).toNat)
        case atStart => exact ⟨0, _, Nat.zero_le _, rfl, rfl, HC, HR.out.congr (fun i hi => by unfold upto; rw [if_neg (by omega), if_pos hi]), HW⟩
        case round =>
          clear HC HR HW HR1 HW1 HT
          obtain ⟨j, cv, hj, rfl, rfl, HC, HR, HW⟩ := hrel
          rcases (show cv = 0 ∨ cv = 1 by rw [HC.out]; exact c2_01 hzw hxw k j) with rfl | rfl
          · have HF : Hid (Row wr bz k (fin z x k)) := by
              refine HR.out.congr fun i hi => ?_
              unfold upto
              by_cases e : i < j
              · rw [if_pos e]
              · rw [if_neg e]; exact fin_stop k j i (by omega) HC.out.symm
            go_wp2_with fail
            go_end0
            exact ⟨rfl, HF.out, HW.out⟩
          · have hlt : j < k := by
              rcases Nat.lt_or_ge j k with h | h
              · exact h
              · have : j = k := by omega
                have h1 := HC.out
                rw [this, c2_end hzw hxw k] at h1
                omega
            have cz' := HR.out.cell j (by omega)
            have fz := HR.out.free j (by omega)
            rw [upto_at] at cz'
            have HA := hide (add_any (dig z x j) 1 0 (dig_wd z x j) one_wd (Or.inl rfl))
            go_wp2_with fail
            refine (HA.out _).mono ?_
            rintro e w' ⟨rfl, rfl⟩
            go_wp2_with fail
            go_roundw
            case rel =>
              have e1 : hi (dig z x j) 1 0 = c2 z x k (j + 1) := by unfold c2; rw [← HC.out]
              have e2 : lo (dig z x j) 1 0 = fin z x k j := by unfold fin; rw [← HC.out]
              exact ⟨j + 1, _, by omega, by go_num, rfl, e1, HR.out.set j _ (upto_step _ _ _ _ e2), HW.out.setCell _ _⟩
            case measure => simp [intOf]; omega
end Go.Proofs.Ybulkboi
