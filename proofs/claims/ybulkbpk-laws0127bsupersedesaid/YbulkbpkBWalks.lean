import Derived.Test.YbulkbpkRows
import Derived.Test.YbulkbpkBPlain
import Derived.Test.YbulkbpkMaps
namespace Go.Proofs.Ybulkbpk
open Go.RowKit Go.Maps PB

theorem str_eq {a b : ByteArray} (h : a = b) : (a.toList == b.toList) = true := by rw [h]; exact beq_self_eq_true _
theorem str_ne {a b : ByteArray} (h : a ≠ b) : (a.toList == b.toList) = false := by
  rw [beq_eq_false_iff_ne]
  intro e
  rw [ByteArray.toList_eq, ByteArray.toList_eq] at e
  exact h (WideShapes.bytes_inj e)
/-- The first n strings of a slice that came in. -/
def SrcS (w : World) (a : Option Addr) (n : Nat) (ks : Nat → ByteArray) : Prop := ∀ i, i < n → ∃ x, a = some x ∧ w.cell? (x.add i) = some (.string (ks i)) ∧ x.block < w.heap.size
def SrcI (w : World) (a : Option Addr) (n : Nat) (vs : Nat → Int) : Prop := ∀ i, i < n → ∃ x, a = some x ∧ w.cell? (x.add i) = some (.int .i64 (vs i)) ∧ x.block < w.heap.size
theorem SrcS.later {w w' : World} {a : Option Addr} {n : Nat} {f : Nat → ByteArray} (h : SrcS w a n f) (hb : Below w.heap.size w w') : SrcS w' a n f := by
  intro i hi
  obtain ⟨x, rfl, hc, hl⟩ := h i hi
  exact ⟨x, rfl, cell_later hb hc, by have := hb.size; omega⟩
theorem SrcI.later {w w' : World} {a : Option Addr} {n : Nat} {f : Nat → Int} (h : SrcI w a n f) (hb : Below w.heap.size w w') : SrcI w' a n f := by
  intro i hi
  obtain ⟨x, rfl, hc, hl⟩ := h i hi
  exact ⟨x, rfl, cell_later hb hc, by have := hb.size; omega⟩
/-- The value that goes with place i. -/
def vl (lv : Nat) (vs : Nat → Int) (i : Nat) : Int := if 0 < lv then vs (i % lv) else 0

set_option maxHeartbeats 400000 in
theorem blast_any (a0 a1 : Option Addr) (n c0 lv c1 : Nat) (ks : Nat → ByteArray) (vs : Nat → Int) (s : ByteArray) (w : World) (hn : n ≤ 1024) (hlv : lv ≤ maxLen) (h0 : SrcS w a0 n ks) (h1 : SrcI w a1 lv vs) :
    Calls Yba.prog 7 #[.slice a0 n c0, .slice a1 lv c1, .string s] w fun e w' => e = .returned (.tuple #[.int .i64 ((last ks (vl lv vs) n s).getD 0), .bool (last ks (vl lv vs) n s).isSome]) ∧ w = w' := by
  unfold maxLen at hlv
  have H0 := hide h0
  have H1 := hide h1
  clear h0 h1
  go_enter Yba.func7, Yba.ntmps7
  go_wp2_with fail
  go_loop [8] (fun i => ∃ (k : Nat) (iv : Int), k ≤ n ∧ i = .int .i64 iv ∧ iv = k - 1 ∧ Hid (∀ j, k ≤ j → j < n → ks j ≠ s)) (fun i => (intOf i + 1).toNat)
  case atStart => exact ⟨n, _, Nat.le_refl _, rfl, rfl, fun j h h' => by omega⟩
  case round =>
    obtain ⟨k, iv, hk, rfl, hiv, HM⟩ := hrel
    rcases k with _ | k
    · obtain rfl : iv = -1 := by omega
      have HF := hide (last_none ks (vl lv vs) s n (fun j hj => HM.out j (Nat.zero_le _) hj))
      clear hiv
      go_wp2_with fail
      go_ret2
      exact ⟨by rw [HF.out]; rfl, rfl⟩
    · obtain rfl : iv = (k : Int) := by omega
      clear hiv
      obtain ⟨x, rfl, hx, hxb⟩ := H0.out k (by omega)
      by_cases he : ks k = s
      · have HF : Hid (last ks (vl lv vs) n s = some (vl lv vs k)) := by
          have := last_miss ks (vl lv vs) s (k + 1) n hk HM.out
          rw [← he, last_at] at this
          rw [← he]; exact this
        by_cases hl : 0 < lv
        · obtain ⟨y, rfl, hy, hyb⟩ := H1.out (k % lv) (Nat.mod_lt _ hl)
          have hm := Nat.mod_lt k hl
          go_wp2_with fail
          go_ret2
          exact ⟨by rw [HF.out]; simp [vl, hl], rfl⟩
        · go_wp2_with fail
          go_ret2
          exact ⟨by rw [HF.out]; simp [vl, hl], rfl⟩
      · have he' := str_ne he
        have HN : Hid (∀ j, k ≤ j → j < n → ks j ≠ s) := fun j h h' => by
          by_cases e : j = k
          · rw [e]; exact he
          · exact HM.out j (by omega) h'
        clear he
        go_wp2_with fail
        go_round
        case rel => exact ⟨k, _, by omega, rfl, rfl, HN⟩
        case measure => simp [intOf]
end Go.Proofs.Ybulkbpk
