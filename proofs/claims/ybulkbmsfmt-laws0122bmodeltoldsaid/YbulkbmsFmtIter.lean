/-
  slices.Values, slices.Collect, slices.Sorted at strings (the kit's worked texts GgSlicesIterAtTheDump, GgPosAtTheDump turned to this program).
-/
import Derived.Test.YbulkbmsFmtPw
import Derived.RangeFuncBox
import Derived.RangeFuncLeaves
import Derived.Shelf.Abstract
import Derived.WalkKit
import Derived.OwnWalkIn
import Derived.TacticsInMore
import Derived.LoopNIn
import Derived.LoopIn
import Derived.Maps.AppendAt
import Derived.Sort.OwnSorted
import Derived.Test.YbulkbmsFmtShelf
import Derived.Test.YbulkbmsFmtRows
namespace Go.Proofs.YbulkbmsFmt
open Go.RowKit Go.Shelf Go.Sort

attribute [local go_sem] Oper.semAt_some

theorem Ybaf.info9 : (Ybaf.prog.info? 9).map (fun i => (i.zero, i.size, i.bytes)) = some (some (.string ⟨#[]⟩), 1, 16) := by kernel_rfl

def upto (zs : List (List UInt8)) (k : Nat) : List (List UInt8) := (List.range k).map fun j => zs[j]?.getD []
theorem upto_succ (zs : List (List UInt8)) (k : Nat) : upto zs (k + 1) = upto zs k ++ [zs[k]?.getD []] := by simp [upto, List.range_succ]
theorem upto_length (zs : List (List UInt8)) (k : Nat) : (upto zs k).length = k := by simp [upto]
theorem upto_take (zs : List (List UInt8)) {k : Nat} (hk : k ≤ zs.length) : upto zs k = zs.take k := by
  apply List.ext_getElem
  · simp [upto, hk]
  · intro i h1 h2
    have : i < zs.length := by simp [upto] at h1; omega
    simp [upto, this]
theorem upto_all (zs : List (List UInt8)) : upto zs zs.length = zs := by rw [upto_take zs (Nat.le_refl _), List.take_length]

set_option maxRecDepth 100000 in
set_option maxHeartbeats 2000000 in
theorem values1_in (F : Fence) (n : Nat) (h25 : F.fn 25) (hro : F.round = none) (hn : 1 ≤ n) (l Bs n₀ b len cap : Nat) (zs : List (List UInt8)) (hreach : len ≤ 256) (hb : b < n₀) (J Jx : List (List UInt8) → World → Prop)
    (hY : ∀ pre x W, J pre W → pre.length < len → YieldAt F (n - 1) Ybaf.prog l #[encStr x] W fun e W' =>
      (e = .returned (.bool true) ∧ J (pre ++ [x]) W' ∧ Below n₀ W W') ∨ (e = .returned (.bool false) ∧ Jx (pre ++ [x]) W'))
    (W : World) (hBs : W.cell? ⟨Bs, 0, none⟩ = some (.slice (some ⟨b, 0, none⟩) len cap)) (hc : ∀ j, j < len → W.cell? ⟨b, j, none⟩ = some (encStr (zs[j]?.getD []))) (h0 : J [] W) :
    CallsIn F n Ybaf.prog 25 #[.func (.yield l) #[] #[], .pointer (some ⟨Bs, 0, none⟩)] W fun e W' => (∃ v, e = .returned v) ∧
      ((∃ ys, ys = upto zs len ∧ J ys W') ∨ (∃ pre, (∃ k, k ≤ len ∧ pre = upto zs k) ∧ Jx pre W')) := by
  refine callsIn_of_wp Ybaf.func25 rfl h25 ?_ hro
  simp only [Ybaf.ntmps25, List.size_toArray, List.length_cons, List.length_nil, Nat.reduceAdd, Nat.reduceSub, Array.replicate_succ, Array.replicate_zero, List.push_toArray, List.append_toArray, List.nil_append, List.cons_append]
  gi_wp2
  gi_loopw [7] (fun i wr => ∃ k : Nat, k ≤ len ∧ i = .int .i64 k ∧ J (upto zs k) wr ∧ Below n₀ W wr)
    (fun i _ => len - (intOf i).toNat)
  case atStart => exact ⟨0, Nat.zero_le _, rfl, h0, Below.refl _ _⟩
  case round =>
    obtain ⟨k, hk, rfl, hJs, hnx⟩ := hrel
    have hcx : k < len → wr.cell? ⟨b, k, none⟩ = some (encStr (zs[k]?.getD [])) := fun h => (hnx.cell (p := ⟨b, k, none⟩) hb).trans (hc k h)
    by_cases hlt : k < len
    · obtain ⟨fn, tmps, assign, body, hy, hR⟩ := hY _ (zs[k]?.getD []) wr hJs (by rw [upto_length]; exact hlt)
      have hcx' := hcx hlt
      gi_wp2
      refine hR.mono ?_
      rintro e W3 (⟨rfl, hJ3, hk3⟩ | ⟨rfl, hJx3⟩)
      · gi_wp2
        go_roundw
        case rel => exact ⟨k + 1, by omega, by simp, by rw [upto_succ]; exact hJ3, hnx.trans hk3⟩
        case measure => simp [intOf]; omega
      · gi_wp2
        refine bodyPost_ret (results_none rfl _ _ _) rfl ?_
        exact ⟨⟨_, rfl⟩, .inr ⟨_, ⟨k + 1, by omega, (upto_succ _ _).symm⟩, hJx3⟩⟩
    · obtain rfl : k = len := by omega
      gi_wp2
      go_end0
      exact ⟨⟨_, rfl⟩, .inl ⟨_, rfl, hJs⟩⟩

theorem values_stops (F : Fence) (n : Nat) (h25 : F.fn 25) (hro : F.round = none) (hn : 1 ≤ n) (Bs n₀ b cap : Nat) (zs : List (List UInt8)) (hreach : zs.length ≤ 256) (w : World) (hBs : Bs < w.heap.size) (hn₀ : n₀ ≤ w.heap.size) (hb : b < n₀)
    (hc : w.cell? ⟨Bs, 0, none⟩ = some (.slice (some ⟨b, 0, none⟩) zs.length cap)) (hI : ∀ j, j < zs.length → w.cell? ⟨b, j, none⟩ = some (encStr (zs[j]?.getD []))) :
    SeqStopsK F n Ybaf.prog 25 #[.pointer (some ⟨Bs, 0, none⟩)] (fun x : List UInt8 => #[encStr x]) (Below n₀) (fun ys => ys = zs) (fun pre => pre <+: zs) zs.length w := fun l J Jx W hW _ _ hY h0 => by
  have hc' := (hW.cell (p := ⟨Bs, 0, none⟩) hBs).trans hc
  refine (values1_in F n h25 hro hn l Bs n₀ b zs.length cap zs hreach hb J Jx hY W hc' (fun j hj => (hW.cell (p := ⟨b, j, none⟩) (by show b < _; omega)).trans (hI j hj)) h0).mono ?_
  rintro e W' ⟨he, ⟨ys, rfl, hj⟩ | ⟨pre, ⟨k, hk, rfl⟩, hj⟩⟩
  · exact ⟨he, .inl ⟨_, upto_all zs, hj⟩⟩
  · exact ⟨he, .inr ⟨_, by rw [upto_take zs hk]; exact List.take_prefix _ _, hj⟩⟩

set_option maxRecDepth 100000 in
set_option maxHeartbeats 2000000 in
/-- slices.AppendSeq(nil, slices.Values(s)). -/
theorem appendSeq_in (F : Fence) (n : Nat) (h29 : F.fn 29) (h25 : F.fn 25) (hro : F.round = none) (hn : 3 ≤ n) (Bs b cap : Nat) (zs : List (List UInt8)) (hreach : zs.length ≤ 256) (w : World) (hBs : Bs < w.heap.size) (hb : b < w.heap.size)
    (hc : w.cell? ⟨Bs, 0, none⟩ = some (.slice (some ⟨b, 0, none⟩) zs.length cap)) (hI : ∀ j, j < zs.length → w.cell? ⟨b, j, none⟩ = some (encStr (zs[j]?.getD []))) :
    CallsIn F n Ybaf.prog 29 #[.slice none 0 0, .func (.func 25) #[] #[.pointer (some ⟨Bs, 0, none⟩)]] w fun e W' => ∃ v, e = .returned v ∧ W'.ownsRow w.heap.size 9 1 v zs.length (zs.map encStr) ∧ (v = .slice none 0 0 ↔ zs = []) ∧ Below w.heap.size w W' := by
  have h1 : 1 ≤ n := by omega
  obtain ⟨i0, hi, hz0, hz1, hz2⟩ := info_parts Ybaf.info9
  refine callsIn_of_wp_marks Ybaf.func29 rfl h29 ?_ hro
  simp only [Ybaf.ntmps29, List.size_toArray, List.length_cons, List.length_nil, Nat.reduceAdd, Nat.reduceSub, Array.replicate_succ, Array.replicate_zero, List.push_toArray, List.append_toArray, List.nil_append, List.cons_append]
  gi_wp2
  have bO := Boxed.new w 24 (.slice none 0 0)
  have hB0 : Below w.heap.size w (w.alloc (.cells #[.slice none 0 0] 24)) := (Below.refl _ w).alloc (Nat.le_refl _) _
  refine wpIn_rangeFunc_ownG hro h1 (gf := 25) (lb := #[.pointer (some ⟨Bs, 0, none⟩)]) rfl h25 (enters_of Ybaf.func25 (by kernel_rfl) rfl)
    (values_stops F (n - 1) h25 hro (by omega) Bs w.heap.size b cap zs hreach _ (by simp; omega) (by simp) hb ((hB0.cell (p := ⟨Bs, 0, none⟩) hBs).trans hc) (fun j hj => (hB0.cell (p := ⟨b, j, none⟩) hb).trans (hI j hj))) belowK_t (belowK_b (by simp)) (Below.refl _ _) (fun _ => rfl)
    (fun pre W => (∃ v, Boxed W w.heap.size 24 v ∧ W.ownsRow w.heap.size 9 1 v pre.length (pre.map encStr) ∧ (v = .slice none 0 0 ↔ pre = [])) ∧ Below w.heap.size w W)
    (fun _ _ _ => False)
    (OwnFrom.and (Own.from (holdsRow_own w.heap.size w.heap.size 24 9 1 (fun pre => pre.length) (fun pre => pre.map encStr) (fun pre v => v = .slice none 0 0 ↔ pre = [])) _) (ownFrom_below (Nat.le_refl _) (by simp)))
    (fun _ _ _ _ _ hs _ _ => hs)
    ⟨⟨_, bO, World.ownsRow_nil _ _ _ _, by simp⟩, hB0⟩
    (fun x => { tmps := #[.slice none 0 0, .func (.func 25) #[] #[.pointer (some ⟨Bs, 0, none⟩)], .pointer (some ⟨w.heap.size, 0, none⟩), undef, .slice none 0 0, encStr x, .func (.func 25) #[] #[.pointer (some ⟨Bs, 0, none⟩)], encStr x, undef, undef, undef, undef, undef], defers := [] }) ?assign ?body ?done ?stop
  case assign =>
    intro l x W K hK
    gi_wp2
    exact hK
  case body =>
    rintro l pre x W ⟨⟨v, hv, hrow, hnil⟩, hB⟩ hlt
    have hc := hv.cell
    gi_wp2_with (gi_at_builtin; refine wpListIn_append_own _ rfl _ _ 24 rfl w.heap.size 9 i0 (.string ⟨#[]⟩) 1 16 Ybaf.underlying24 hi hz0 hz1 hz2 rfl (by decide) _ _ _ rfl (hrow.alloc _) ⟨W.heap.size, 0, none⟩ 1 1 [encStr x] rfl rfl (cell_one_new _ _ _) (by simp [Value.oneCell', encStr]) (by unfold maxLen; omega) (by omega) (by have := hB.size; simp; omega) ?_; intro v' w1 hown' hgrow _; obtain ⟨g', cap', rfl⟩ := ownsRow_succ hown'; obtain ⟨hv1, hv2, hr2, hk2, hb2⟩ := hv.appended (by decide) hrow hB.size (Nat.le_refl _) hown' hgrow; have hc1 := hv1.cell; have hf1 := hv1.frozen)
    exact ⟨hk2.from _, hb2, ⟨_, hv2, by simpa using hr2, by simp⟩, hB.trans hb2⟩
  case done =>
    rintro D ys W hD rfl ⟨⟨v, hv, hrow, hnil⟩, hB⟩ hK
    have hc := hv.cell
    gi_wp2
    refine ⟨by simp, .inl ⟨_, _, rfl, run_takeDeferred hK, ?_⟩⟩
    exact ⟨_, results_tmp rfl _ _ _, v, rfl, ownsRow_putObj hrow _ hK rfl, hnil, hB.trans (belowK_b (w := w) (Nat.le_refl _) W D _ _ (by simp at hD; omega) hK rfl rfl)⟩
  case stop =>
    rintro D c pre W _ _ h _
    exact h.elim
set_option maxHeartbeats 1000000 in
theorem collect_in (F : Fence) (n : Nat) (h23 : F.fn 23) (h29 : F.fn 29) (h25 : F.fn 25) (hro : F.round = none) (hn : 4 ≤ n) (Bs b cap : Nat) (zs : List (List UInt8)) (hreach : zs.length ≤ 256) (w : World) (hBs : Bs < w.heap.size) (hb : b < w.heap.size)
    (hc : w.cell? ⟨Bs, 0, none⟩ = some (.slice (some ⟨b, 0, none⟩) zs.length cap)) (hI : ∀ j, j < zs.length → w.cell? ⟨b, j, none⟩ = some (encStr (zs[j]?.getD []))) :
    CallsIn F n Ybaf.prog 23 #[.func (.func 25) #[] #[.pointer (some ⟨Bs, 0, none⟩)]] w fun e W' => ∃ v, e = .returned v ∧ W'.ownsRow w.heap.size 9 1 v zs.length (zs.map encStr) ∧ (v = .slice none 0 0 ↔ zs = []) ∧ Below w.heap.size w W' := by
  have h1 : 1 ≤ n := by omega
  refine callsIn_of_wp Ybaf.func23 rfl h23 ?_ hro
  simp only [Ybaf.ntmps23, List.size_toArray, List.length_cons, List.length_nil, Nat.reduceAdd, Nat.reduceSub, Array.replicate_succ, Array.replicate_zero, List.push_toArray, List.append_toArray, List.nil_append, List.cons_append]
  gi_wp2_with (gi_at_call 29; refine (appendSeq_in F (n - 1) h29 h25 hro (by omega) Bs b cap zs hreach _ hBs hb hc hI).mono ?_; rintro e W ⟨v, rfl, hrow, hnil, hb2⟩)
  go_ret
  exact ⟨v, rfl, hrow, hnil, hb2⟩

set_option maxHeartbeats 1000000 in
theorem sorted_in (n : Nat) (hn : 5 ≤ n) (Bs b cap : Nat) (zs : List (List UInt8)) (hreach : zs.length ≤ 256) (hne : zs ≠ []) (hs : zs.Pairwise (· ≤ ·)) (w : World) (hBs : Bs < w.heap.size) (hb : b < w.heap.size)
    (hc : w.cell? ⟨Bs, 0, none⟩ = some (.slice (some ⟨b, 0, none⟩) zs.length cap)) (hI : ∀ j, j < zs.length → w.cell? ⟨b, j, none⟩ = some (encStr (zs[j]?.getD []))) :
    CallsIn Fence.wide n Ybaf.prog 13 #[.func (.func 25) #[] #[.pointer (some ⟨Bs, 0, none⟩)]] w fun e W' => ∃ ρ c, e = .returned (.slice (some ⟨ρ, 0, none⟩) zs.length c) ∧ W'.ownsRow w.heap.size 9 1 (.slice (some ⟨ρ, 0, none⟩) zs.length c) zs.length (zs.map encStr) ∧ Below w.heap.size w W' := by
  have h1 : 1 ≤ n := by omega
  have hms : zs.mergeSort (fun x y => decide (x ≤ y)) = zs := List.mergeSort_of_pairwise (pw_of hs (fun _ _ h => by simpa using h))
  refine callsIn_of_wp Ybaf.func13 rfl trivial ?_ rfl
  simp only [Ybaf.ntmps13, List.size_toArray, List.length_cons, List.length_nil, Nat.reduceAdd, Nat.reduceSub, Array.replicate_succ, Array.replicate_zero, List.push_toArray, List.append_toArray, List.nil_append, List.cons_append]
  have hf23 : Fence.wide.fn 23 := trivial
  have hf24 : Fence.wide.fn 24 := trivial
  gi_wp2_with (gi_at_call 23; refine (collect_in Fence.wide (n - 1) trivial trivial trivial rfl (by omega) Bs b cap zs hreach _ hBs hb hc hI).mono ?_; rintro e W ⟨v, rfl, hrow, hnil, hb2⟩)
  rcases hrow.2 with ⟨rfl, hz⟩ | ⟨gb, cp, cur, rfl, hbase, hgb, r1, r2, r3, r4⟩
  · exact absurd (hnil.1 rfl) hne
  · have hH : Holds encStr W gb 0 zs.toArray := holds_of_block hgb (by simpa using r4)
    have hgl : gb < W.heap.size := (Array.getElem?_eq_some_iff.1 hgb).1
    have cS := callsIn_wide (n := n - 1).2 (Ybaf.slices_Sort_string gb 0 cp zs W hH hgl (by omega))
    gi_wp2_with (gi_at_call 24; refine cS.mono ?_; rintro e w' ⟨rfl, nn, os, rfl⟩)
    go_ret
    exact ⟨gb, cp, rfl, ownsRow_sorted rfl hbase hgb r1 r2 r3, hb2.grown (grownBy_sorted _) hb2.size (fun j hj => by cases hj; exact hbase)⟩
/-- slices.Sorted(slices.Values(s)), s sorted: a new slice, the same strings. -/
theorem sorted_any (Bs b cap : Nat) (zs : List (List UInt8)) (hreach : zs.length ≤ 256) (hne : zs ≠ []) (hs : zs.Pairwise (· ≤ ·)) (w : World) (hBs : Bs < w.heap.size) (hb : b < w.heap.size)
    (hc : w.cell? ⟨Bs, 0, none⟩ = some (.slice (some ⟨b, 0, none⟩) zs.length cap)) (hI : ∀ j, j < zs.length → w.cell? ⟨b, j, none⟩ = some (encStr (zs[j]?.getD []))) :
    Calls Ybaf.prog 13 #[.func (.func 25) #[] #[.pointer (some ⟨Bs, 0, none⟩)]] w fun e W' => ∃ ρ c, e = .returned (.slice (some ⟨ρ, 0, none⟩) zs.length c) ∧ W'.ownsRow w.heap.size 9 1 (.slice (some ⟨ρ, 0, none⟩) zs.length c) zs.length (zs.map encStr) ∧ Below w.heap.size w W' :=
  (callsIn_wide (n := 5)).1 (sorted_in 5 (Nat.le_refl _) Bs b cap zs hreach hne hs w hBs hb hc hI)
theorem values_any (a : Option Addr) (len cap : Nat) (w : World) :
    Calls Ybaf.prog 14 #[.slice a len cap] w fun e w' => e = .returned (.func (.func 25) #[] #[.pointer (some ⟨w.heap.size, 0, none⟩)]) ∧ w' = w.alloc (.cells #[.slice a len cap] 24) := by
  go_enter Ybaf.func14, Ybaf.ntmps14
  go_wp2
  go_ret
  exact ⟨rfl, rfl⟩
end Go.Proofs.YbulkbmsFmt
