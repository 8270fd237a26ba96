import Derived.Test.YbulkbmsFmtPw
import Derived.Test.YbulkbmsFmtLightP
import Derived.Test.YbulkbmsFmtShelf
import Derived.BigQuiet
namespace Go.Proofs.YbulkbmsFmt
open Go.RowKit

theorem later_drewN {a : Addr} {v : Value} {w : World} (h : w.cell? a = some v) (k : Nat) : (w.drewN k).cell? a = some v := h
theorem below_drewN {B : Nat} {w w' : World} (h : Below B w w') (k : Nat) : Below B w (w'.drewN k) := ⟨h.os, h.tape, h.output, h.size, h.block⟩

/-- Adjacent says true of two that are joined. -/
theorem adjacent_any {w0 : World} (g n : Nat) (nb : Nat → List Nat) (hsort : ∀ v, v < n → (nb v).Pairwise (· ≤ ·)) (hshort : ∀ v, v < n → (nb v).length ≤ 256) (u v : Nat) (hu : u < n) (hv : v ∈ nb u) (w : World) (h : GraphAt w0 g n nb) (hB : Below w0.heap.size w0 w) :
    Calls Ybaf.prog 28 #[.pointer (some ⟨g, 0, none⟩), .int .i64 u, .int .i64 v] w fun e w' => e = .returned (.bool true) ∧ ∃ q, w' = w.drewN q := by
  obtain ⟨b, c2, h2', h3⟩ := h.neighs
  obtain ⟨a', c', h4', h5⟩ := h3 u hu
  have h2 := cell_later hB h2'
  have h4 := cell_later hB h4'
  obtain ⟨i, hi, he⟩ := List.mem_iff_getElem.1 hv
  obtain ⟨b', rfl, _⟩ := h5 i v (by rw [List.getElem?_eq_getElem hi, he])
  have hl : (u : Int) < (n : Int) := by omega
  have hc : ∀ j, j < ((nb u).map fun (x : Nat) => (x : Int)).length → w.cell? ⟨b', 0 + j, none⟩ = some (.int .i64 (((nb u).map fun (x : Nat) => (x : Int)).getD j 0)) := fun j hj => by
    have hj' : j < (nb u).length := by simpa using hj
    obtain ⟨b'', e, h6⟩ := h5 j (nb u)[j] (List.getElem?_eq_getElem hj')
    injection e with e
    injection e with e _ _
    subst e
    rw [Nat.zero_add, cell_later hB h6]
    simp [List.getD, hj']
  have hbs := Ybaf.slices_BinarySearch_int b' 0 (nb u).length c' ((nb u).map fun (x : Nat) => (x : Int)) v w (by simp) (by have := hshort u hu; omega) hc (by
    rw [List.take_of_length_le (by simp)]
    exact List.pairwise_map.2 (pw_of (hsort u hu) (fun _ _ h => by omega)))
  have hct : (((nb u).map fun (x : Nat) => (x : Int)).take (nb u).length).contains (v : Int) = true := by
    rw [List.take_of_length_le (by simp)]
    simp
    exact ⟨v, hv, rfl⟩
  rw [hct] at hbs
  generalize (((nb u).map fun (x : Nat) => (x : Int)).take (nb u).length).countP (· < (v : Int)) = cp at hbs
  have Hbs := hide hbs
  clear h h3 h5 h2' h4' hB hc hbs hct hsort hshort
  go_enter Ybaf.func28, Ybaf.ntmps28
  go_wp2_with (go_at_call 42; refine Hbs.out.mono ?_; rintro e w' ⟨rfl, q, rfl⟩)
  go_ret
  exact ⟨rfl, q, rfl⟩
theorem adjacent2_any {w0 : World} (cg g n : Nat) (nb : Nat → List Nat) (hsort : ∀ v, v < n → (nb v).Pairwise (· ≤ ·)) (hshort : ∀ v, v < n → (nb v).length ≤ 256) (u v : Nat) (hu : u < n) (hv : v ∈ nb u) (w : World) (h : GraphAt w0 g n nb) (hB : Below w0.heap.size w0 w) (hc : w.cell? ⟨cg, 0, none⟩ = some (.pointer (some ⟨g, 0, none⟩))) :
    Calls Ybaf.prog 19 #[.pointer (some ⟨cg, 0, none⟩), .int .i64 u, .int .i64 v] w fun e w' => e = .returned (.bool true) ∧ ∃ q, w' = w.drewN q := by
  have HA := hide (adjacent_any g n nb hsort hshort u v hu hv w h hB)
  clear hsort hshort h hB hv
  go_enter Ybaf.func19, Ybaf.ntmps19
  go_wp2_with (go_at_call 28; refine HA.out.mono ?_; rintro e w' ⟨rfl, q, rfl⟩)
  go_ret
  exact ⟨rfl, q, rfl⟩

/-- The closure that MinFunc is handed: some number. -/
theorem cmp_any (box cg br n a b : Nat) (rk : Nat → Int) (w : World) (ha : a < n) (hb : b < n) (h1 : w.cell? ⟨box, 0, none⟩ = some (.pointer (some ⟨cg, 0, none⟩))) (h2 : w.cell? ⟨cg, 1, none⟩ = some (.slice (some ⟨br, 0, none⟩) n n)) (h3 : ∀ v, v < n → w.cell? ⟨br, v, none⟩ = some (.int .i64 (rk v))) :
    Calls Ybaf.prog 18 #[.int .i64 (a : Int), .int .i64 (b : Int), .pointer (some ⟨box, 0, none⟩)] w fun e w' => (∃ z, e = .returned (.int .i64 z)) ∧ ∃ q, w' = w.drewN q := by
  have h4 := h3 a ha
  have h5 := h3 b hb
  have hl1 : (a : Int) < (n : Int) := by omega
  have hl2 : (b : Int) < (n : Int) := by omega
  clear h3
  go_enter Ybaf.func18, Ybaf.ntmps18
  go_upto_region 1 with fail
  go_quiet (fail)
  go_wp2_with fail
  go_ret
  exact ⟨⟨_, rfl⟩, _, rfl⟩

set_option maxRecDepth 100000 in
set_option maxHeartbeats 1000000 in
theorem minfunc_any (box cg br n : Nat) (rk : Nat → Int) (ρ o m c : Nat) (f : Nat → Nat) (w : World) (hf : ∀ j, j < m → f j < n) (hm : 0 < m) (hm2 : m ≤ 256) (h1 : w.cell? ⟨box, 0, none⟩ = some (.pointer (some ⟨cg, 0, none⟩))) (h2 : w.cell? ⟨cg, 1, none⟩ = some (.slice (some ⟨br, 0, none⟩) n n)) (h3 : ∀ v, v < n → w.cell? ⟨br, v, none⟩ = some (.int .i64 (rk v)))
    (h4 : ∀ j, j < m → w.cell? ⟨ρ, o + j, none⟩ = some (.int .i64 (f j : Int))) :
    Calls Ybaf.prog 17 #[.slice (some ⟨ρ, o, none⟩) m c, .func (.func 18) #[] #[.pointer (some ⟨box, 0, none⟩)]] w fun e w' => (∃ j, j < m ∧ e = .returned (.int .i64 (f j : Int))) ∧ ∃ q, w' = w.drewN q := by
  have c0 := h4 0 hm
  rw [Nat.add_zero] at c0
  have hl0 : (0 : Int) < (m : Int) := by omega
  have hl1 : ¬ (m : Int) < 1 := by omega
  have H3 := hide h3
  have H4 := hide h4
  have Hf := hide hf
  clear h3 h4 hf
  go_enter Ybaf.func17, Ybaf.ntmps17
  go_wp2_with fail
  go_loopg [5, 6] (m - 1) (fun gk s5 s6 wr => ∃ (i j : Nat), i ≤ m ∧ j < m ∧ gk = m - i ∧ s5 = .int .i64 (f j : Int) ∧ s6 = .int .i64 (i : Int) ∧ Hid (∃ q, wr = w.drewN q))
  case atStart => exact ⟨1, 0, by omega, hm, rfl, rfl, rfl, 0, rfl⟩
  case round =>
    obtain ⟨i, j, hi, hj, rfl, rfl, rfl, Hq⟩ := hrel
    by_cases hlt : i < m
    · have hl2 : (i : Int) < (m : Int) := by omega
      have c1 : wr.cell? ⟨ρ, o + i, none⟩ = some (.int .i64 (f i : Int)) := by
        obtain ⟨q, e⟩ := Hq.out
        rw [e]
        exact H4.out i hlt
      have Hcl : Hid (Calls Ybaf.prog 18 #[.int .i64 (f i : Int), .int .i64 (f j : Int), .pointer (some ⟨box, 0, none⟩)] wr fun e w' => (∃ z, e = .returned (.int .i64 z)) ∧ ∃ q, w' = wr.drewN q) := by
        obtain ⟨q, e⟩ := Hq.out
        rw [e]
        exact cmp_any box cg br n (f i) (f j) rk _ (Hf.out i hlt) (Hf.out j hj) h1 h2 H3.out
      go_wp2_with (first | (go_at_call 18; refine Hcl.out.mono ?_; rintro e w' ⟨⟨z, rfl⟩, q', rfl⟩; obtain ⟨c2, Hq2⟩ : (wr.drewN q').cell? ⟨ρ, o + i, none⟩ = some (.int .i64 (f i : Int)) ∧ Hid (∃ q, wr.drewN q' = w.drewN q) := ⟨c1, by obtain ⟨q, e⟩ := Hq.out; exact ⟨q + q', by rw [e]; simp [World.drewN_drewN]⟩⟩; generalize wr.drewN q' = W at c2 Hq2 ⊢) | fail)
      · go_roundg (m - (i + 1))
        case measure => omega
        case rel => exact ⟨i + 1, i, by omega, hlt, rfl, rfl, by go_num, Hq2.out⟩
      · go_roundg (m - (i + 1))
        case measure => omega
        case rel => exact ⟨i + 1, j, by omega, hj, rfl, rfl, by go_num, Hq2.out⟩
    · have hl2 : ¬ (i : Int) < (m : Int) := by omega
      go_wp2_with fail
      go_ret
      exact ⟨⟨j, hj, rfl⟩, Hq.out⟩
end Go.Proofs.YbulkbmsFmt
