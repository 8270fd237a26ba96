import Derived.Test.YbulkboiAdd
import Derived.Deep.QuietTactic
import Derived.BigQuiet
namespace Go.Proofs.Ybulkboi
open Go.RowKit Pl

set_option maxHeartbeats 400000 in
theorem eq_any (b1 b2 n k1 k2 : Nat) (f : Nat → Int) (w : World) (hn : n ≤ 1024) (h1 : Row w b1 n f) (h2 : Row w b2 n f) :
    Calls Yba.prog 8 #[.slice (some ⟨b1, 0, none⟩) n k1, .slice (some ⟨b2, 0, none⟩) n k2] w fun e w' => e = .returned (.bool true) ∧ ∃ m, w' = w.drewN m := by
  have H1 := hide h1
  have H2 := hide h2
  clear h1 h2
  go_enter Yba.func8, Yba.ntmps8
  go_wp2_with fail
  go_loopw [5] (fun i wr => ∃ (k m : Nat), k ≤ n ∧ i = .int .i64 k ∧ Hid (wr = w.drewN m)) (fun i _ => n - (intOf i).toNat)
  case atStart => exact ⟨0, 0, Nat.zero_le _, rfl, rfl⟩
  case round =>
    obtain ⟨k, m, hk, rfl, HW⟩ := hrel
    obtain rfl := HW.out
    by_cases hlt : k < n
    · have c1 := H1.out.cell k hlt
      have c2 := H2.out.cell k hlt
      have hlt' : (k : Int) < (n : Int) := by omega
      go_wp2_with fail
      go_quiet (fail)
      go_wp2_with fail
      go_roundw
      case rel => exact ⟨k + 1, m + nq, by omega, by go_num, by simp [Hid]⟩
      case measure => simp [intOf]; omega
    · have hkn : k = n := by omega
      subst hkn
      go_wp2_with fail
      go_ret
      exact ⟨rfl, m, rfl⟩
end Go.Proofs.Ybulkboi
