import Derived.Test.YbulkboiWalks
namespace Go.Proofs.Ybulkboi
open Go.RowKit Pl

/-- z, the words below k replaced by d's. -/
def upto (k : Nat) (d z : Nat → Int) (i : Nat) : Int := if i < k then d i else z i
theorem upto_step (n k : Nat) (d z : Nat → Int) {v : Int} (hv : v = d k) (i : Nat) (_ : i < n) : upto (k + 1) d z i = if i = k then v else upto k d z i := by
  unfold upto
  by_cases e : i = k
  · subst e; rw [if_pos (by omega), if_pos rfl, hv]
  · rw [if_neg e]; by_cases e' : i < k
    · rw [if_pos (by omega), if_pos e']
    · rw [if_neg (by omega), if_neg e']
theorem upto_at (k : Nat) (d z : Nat → Int) : upto k d z k = z k := if_neg (by omega)

set_option maxHeartbeats 400000 in
theorem addTo_any (bz bx n nx cz cx : Nat) (z x : Nat → Int) (w : World) (hnx : nx ≤ n) (hn : n ≤ 1024) (hne : bx ≠ bz) (hzw : ∀ i, Wd (z i)) (hxw : ∀ i, Wd (x i)) (hz : Row w bz n z) (hx : Row w bx nx x) :
    Calls Yba.prog 9 #[.slice (some ⟨bz, 0, none⟩) nx cz, .slice (some ⟨bx, 0, none⟩) nx cx] w fun e w' => e = .returned (.int .u64 (car z x nx)) ∧ Row w' bz n (upto nx (dig z x) z) ∧ Wrote bz w w' := by
  go_enter Yba.func9, Yba.ntmps9
  go_wp2_with fail
  go_loopw [5, 10] (fun c i wr => ∃ k : Nat, k ≤ nx ∧ i = .int .i64 k ∧ c = .int .u64 (car z x k) ∧ Row wr bz n (upto k (dig z x) z) ∧ Wrote bz w wr) (fun _ i _ => nx - (intOf i).toNat)
  case atStart => exact ⟨0, Nat.zero_le _, rfl, rfl, hz.congr (fun i _ => rfl), Wrote.refl _ _⟩
  case round =>
    obtain ⟨k, hk, rfl, rfl, hR, hW⟩ := hrel
    by_cases hlt : k < nx
    · have cx := (hx.other hW hne).cell k hlt
      have cz := hR.cell k (by omega)
      have fz := hR.free k (by omega)
      rw [upto_at] at cz
      have HR := hide hR
      have HA := hide (add_any (z k) (x k) (car z x k) (hzw k) (hxw k) (car_01 hzw hxw k))
      clear hR
      go_wp2_with fail
      refine (HA.out _).mono ?_
      rintro e w' ⟨rfl, rfl⟩
      go_wp2_with fail
      go_roundw
      case rel => exact ⟨k + 1, by omega, by go_num, rfl, HR.out.set k _ (upto_step _ _ _ _ rfl), hW.setCell _ _⟩
      case measure => simp [intOf]; omega
    · have hkn : k = nx := by omega
      subst hkn
      go_wp2_with fail
      go_ret
      exact ⟨rfl, hR, hW⟩
end Go.Proofs.Ybulkboi
