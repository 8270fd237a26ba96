import Derived.Test.YbulkbmsFmtPw
import Derived.Test.YbulkbmsFmtSmall
import Derived.Laws.BytesArg
import Derived.Sort.EncStr
namespace Go.Proofs.YbulkbmsFmt
open Go.RowKit

/-- The label of vertex i. -/
def labL (i : Nat) : List UInt8 := [97, UInt8.ofNat (97 + i / 26), UInt8.ofNat (97 + i % 26)]
def lab (i : Nat) : ByteArray := ⟨(labL i).toArray⟩
theorem labs_sorted : ((List.range 256).map labL).Pairwise (· < ·) := by decide +kernel
theorem labs_le (n : Nat) (hn : n ≤ 256) : ((List.range n).map labL).Pairwise (· ≤ ·) := by
  have h1 : ((List.range n).map labL).Sublist ((List.range 256).map labL) := by
    refine List.Sublist.map _ ?_
    rw [show List.range n = (List.range 256).take n by rw [List.take_range, Nat.min_eq_left hn]]
    exact List.take_sublist _ _
  exact pw_of (labs_sorted.sublist h1) (fun _ _ h => List.le_of_lt h)
theorem lab_inj {i j : Nat} (hi : i < 256) (hj : j < 256) (h : lab i = lab j) : i = j := by
  have h1 : labL i = labL j := by
    unfold lab at h
    injection h with h
    simpa using h
  have key : ∀ a b, a < b → b < 256 → labL a ≠ labL b := fun a b hab hb e => by
    have h2 := List.pairwise_iff_getElem.1 labs_sorted a b (by simp; omega) (by simp; omega) hab
    simp only [List.getElem_map, List.getElem_range] at h2
    rw [e] at h2
    exact List.lt_irrefl _ h2
  rcases Nat.lt_trichotomy i j with e | e | e
  · exact absurd h1 (key i j e hj)
  · exact e
  · exact absurd h1.symm (key j i e hi)

set_option maxRecDepth 10000 in
set_option maxHeartbeats 1000000 in
theorem label_any (i : Nat) (hi : i < 256) (w : World) :
    Calls Ybaf.prog 4 #[.int .i64 (i : Int)] w fun e w' => e = .returned (.string (lab i)) ∧ ∃ o, w' = w.alloc o := by
  have e1 : (i : Int).tdiv 676 = 0 := by rw [Int.tdiv_eq_ediv_of_nonneg (by omega)]; omega
  have e2 : (i : Int).tdiv 26 = ((i / 26 : Nat) : Int) := by rw [Int.tdiv_eq_ediv_of_nonneg (by omega)]; omega
  have e3 : ((i / 26 : Nat) : Int).tmod 26 = ((i / 26 : Nat) : Int) := by rw [Int.tmod_eq_emod_of_nonneg (by omega)]; omega
  have e4 : (i : Int).tmod 26 = ((i % 26 : Nat) : Int) := by rw [Int.tmod_eq_emod_of_nonneg (by omega)]; omega
  have hq : i / 26 < 10 := by omega
  have hr : i % 26 < 26 := by omega
  have hl : lab i = strOfNums [97, 97 + ((i / 26 : Nat) : Int), 97 + ((i % 26 : Nat) : Int)] := by
    unfold lab labL strOfNums
    simp only [List.map_cons, List.map_nil]
    rw [show (97 + ((i / 26 : Nat) : Int)).toNat = 97 + i / 26 by omega, show (97 + ((i % 26 : Nat) : Int)).toNat = 97 + i % 26 by omega]
    rfl
  have Hl := hide hl
  clear hl
  generalize i / 26 = q at *
  generalize i % 26 = r at *
  generalize (i : Int) = z at *
  have hcv := run_convert_bytes_arg (P := Ybaf.prog) (w.alloc (.cells #[.int .u8 97, .int .u8 (97 + (q : Int)), .int .u8 (97 + (r : Int))] 5)) 22 5 Ybaf.underlying22 Ybaf.underlying5 w.heap.size 0 3 3 [97, 97 + (q : Int), 97 + (r : Int)] rfl (by
    intro j hj
    match j, hj with
    | 0, _ => simp
    | 1, _ => simp
    | 2, _ => simp) 9 Ybaf.underlying9
  go_enter Ybaf.func4, Ybaf.ntmps4
  go_wp2
  go_ret
  exact ⟨by rw [Hl.out]; rfl, _, rfl⟩
end Go.Proofs.YbulkbmsFmt
