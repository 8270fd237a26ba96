/-
  THE PLAIN PART of the two laws over addCyclic: words are integers from 0 to M - 1; rows of words are functions of the place. No program in sight.
-/
namespace Go.Proofs.Ybulkboi.Pl

def M : Int := 18446744073709551616
theorem M_eq : M = 18446744073709551616 := rfl
def lo (x y c : Int) : Int := (x + y + c) % M
def hi (x y c : Int) : Int := (x + y + c) / M
/-- A word. -/
def Wd (x : Int) : Prop := 0 ≤ x ∧ x < M

/-- The carry into place k of z + x. -/
def car (z x : Nat → Int) : Nat → Int
  | 0 => 0
  | k + 1 => hi (z k) (x k) (car z x k)
/-- The word at place k of z + x. -/
def dig (z x : Nat → Int) (k : Nat) : Int := lo (z k) (x k) (car z x k)
/-- The carry into place k as the carry out of the top (of n words) goes round. -/
def c2 (z x : Nat → Int) (n : Nat) : Nat → Int
  | 0 => car z x n
  | k + 1 => hi (dig z x k) (c2 z x n k) 0
/-- The word at place k of what addCyclic leaves. -/
def fin (z x : Nat → Int) (n k : Nat) : Int := lo (dig z x k) (c2 z x n k) 0

theorem lo_wd (x y c : Int) : Wd (lo x y c) := by unfold Wd lo M; omega
theorem hi_01 {x y c : Int} (hx : Wd x) (hy : Wd y) (hc : c = 0 ∨ c = 1) : hi x y c = 0 ∨ hi x y c = 1 := by
  unfold Wd M at *; unfold hi M; omega
theorem car_01 {z x : Nat → Int} (hz : ∀ i, Wd (z i)) (hx : ∀ i, Wd (x i)) : ∀ k, car z x k = 0 ∨ car z x k = 1
  | 0 => Or.inl rfl
  | k + 1 => hi_01 (hz k) (hx k) (car_01 hz hx k)
theorem dig_wd (z x : Nat → Int) (k : Nat) : Wd (dig z x k) := lo_wd _ _ _
theorem zero_wd : Wd 0 := by unfold Wd M; omega
theorem hi_01' {x c : Int} (hx : Wd x) (hc : c = 0 ∨ c = 1) : hi x c 0 = 0 ∨ hi x c 0 = 1 := by
  unfold Wd M at *; unfold hi M; omega
theorem c2_01 {z x : Nat → Int} (hz : ∀ i, Wd (z i)) (hx : ∀ i, Wd (x i)) (n : Nat) : ∀ k, c2 z x n k = 0 ∨ c2 z x n k = 1
  | 0 => car_01 hz hx n
  | k + 1 => hi_01' (dig_wd z x k) (c2_01 hz hx n k)

/-- Where a carry comes out of place k - 1, not all words below are M - 1. -/
theorem not_all {z x : Nat → Int} (hz : ∀ i, Wd (z i)) (hx : ∀ i, Wd (x i)) : ∀ k, car z x k = 1 → ¬ ∀ j, j < k → dig z x j = M - 1
  | 0, h => by simp [car] at h
  | k + 1, h => by
    intro ha
    have ih := not_all hz hx k
    have h1 := ha k (by omega)
    have hc := car_01 hz hx k
    have hzk := hz k
    have hxk := hx k
    unfold car at h
    unfold dig at h1
    have : car z x k = 1 := by
      unfold Wd M at *; unfold hi M at h; unfold lo M at h1; omega
    exact ih this fun j hj => ha j (by omega)
/-- The carry that goes round runs through words M - 1 alone. -/
theorem c2_run {z x : Nat → Int} (hz : ∀ i, Wd (z i)) (hx : ∀ i, Wd (x i)) (n : Nat) : ∀ k, c2 z x n k = 1 → car z x n = 1 ∧ ∀ j, j < k → dig z x j = M - 1
  | 0, h => ⟨h, fun j hj => by omega⟩
  | k + 1, h => by
    have hc := c2_01 hz hx n k
    have hd := dig_wd z x k
    have ih := c2_run hz hx n k
    unfold c2 at h
    have e : c2 z x n k = 1 ∧ dig z x k = M - 1 := by
      unfold Wd M at *; unfold hi M at h; omega
    refine ⟨(ih e.1).1, fun j hj => ?_⟩
    by_cases hjk : j = k
    · rw [hjk]; exact e.2
    · exact (ih e.1).2 j (by omega)
/-- It never comes out of the top. -/
theorem c2_end {z x : Nat → Int} (hz : ∀ i, Wd (z i)) (hx : ∀ i, Wd (x i)) (n : Nat) : c2 z x n n = 0 := by
  rcases c2_01 hz hx n n with h | h
  · exact h
  · exact absurd (c2_run hz hx n n h).2 (not_all hz hx n (c2_run hz hx n n h).1)

/-! ### steps -/
theorem lo_zero {x : Int} (hx : Wd x) : lo x 0 0 = x := by unfold Wd M at *; unfold lo M; omega
theorem hi_zero {x : Int} (hx : Wd x) : hi x 0 0 = 0 := by unfold Wd M at *; unfold hi M; omega
theorem lo_swap (x c : Int) : lo x c 0 = lo x 0 c := by unfold lo; rw [Int.add_zero, Int.add_zero]
theorem hi_swap (x c : Int) : hi x c 0 = hi x 0 c := by unfold hi; rw [Int.add_zero, Int.add_zero]
theorem car_stop {z x : Nat → Int} (hz : ∀ i, Wd (z i)) (k n : Nat) (hk : k ≤ n) (h0 : ∀ j, k ≤ j → x j = 0) (hc : car z x k = 0) : car z x n = 0 := by
  obtain ⟨d, rfl⟩ : ∃ d, n = k + d := ⟨n - k, by omega⟩
  clear hk
  induction d with
  | zero => exact hc
  | succ d ih => show hi (z (k + d)) (x (k + d)) (car z x (k + d)) = 0; rw [h0 _ (by omega), ih]; exact hi_zero (hz _)
theorem dig_stop {z x : Nat → Int} (hz : ∀ i, Wd (z i)) (k n : Nat) (hk : k ≤ n) (h0 : ∀ j, k ≤ j → x j = 0) (hc : car z x k = 0) : dig z x n = z n := by
  unfold dig; rw [car_stop hz k n hk h0 hc, h0 n hk]; exact lo_zero (hz n)
theorem c2_stop {z x : Nat → Int} (n k m : Nat) (hk : k ≤ m) (hc : c2 z x n k = 0) : c2 z x n m = 0 := by
  obtain ⟨d, rfl⟩ : ∃ d, m = k + d := ⟨m - k, by omega⟩
  clear hk
  induction d with
  | zero => exact hc
  | succ d ih => show hi (dig z x (k + d)) (c2 z x n (k + d)) 0 = 0; rw [ih]; exact hi_zero (dig_wd z x _)
theorem fin_stop {z x : Nat → Int} (n k m : Nat) (hk : k ≤ m) (hc : c2 z x n k = 0) : fin z x n m = dig z x m := by
  unfold fin; rw [c2_stop n k m hk hc]; exact lo_zero (dig_wd z x m)

/-! ### the two orders -/
theorem car_comm (z x : Nat → Int) : ∀ k, car z x k = car x z k
  | 0 => rfl
  | k + 1 => by unfold car; rw [car_comm z x k]; unfold hi; rw [Int.add_comm (z k)]
theorem dig_comm (z x : Nat → Int) (k : Nat) : dig z x k = dig x z k := by
  unfold dig; rw [car_comm z x k]; unfold lo; rw [Int.add_comm (z k)]
theorem c2_comm (z x : Nat → Int) (n : Nat) : ∀ k, c2 z x n k = c2 x z n k
  | 0 => car_comm z x n
  | k + 1 => by unfold c2; rw [c2_comm z x n k, dig_comm z x k]
theorem fin_comm (z x : Nat → Int) (n k : Nat) : fin z x n k = fin x z n k := by
  unfold fin; rw [dig_comm z x k, c2_comm z x n k]
/-- Only the places below n matter. -/
theorem car_congr {z x z' x' : Nat → Int} (n : Nat) (h1 : ∀ i, i < n → z i = z' i) (h2 : ∀ i, i < n → x i = x' i) : ∀ k, k ≤ n → car z x k = car z' x' k
  | 0, _ => rfl
  | k + 1, hk => by unfold car; rw [car_congr n h1 h2 k (by omega), h1 k (by omega), h2 k (by omega)]

/-! ### the model's step: two sums, each compared with what it was made of -/
theorem md_sum (r x c : Int) : lo (lo r x 0) c 0 = lo r x c := by
  unfold lo M; omega
theorem md_carry {r x c : Int} (hr : Wd r) (hx : Wd x) (hc : c = 0 ∨ c = 1) : (lo r x 0 < r ∨ lo (lo r x 0) c 0 < lo r x 0) ↔ hi r x c = 1 := by
  unfold Wd M at *; unfold lo hi M; omega
end Go.Proofs.Ybulkboi.Pl
