import Derived.Test.YbulkbpkBLaw
import Derived.ProofKit
import Derived.OpenShut
import Derived.ShutString
import Derived.ChangeOld
import Derived.Below
import Derived.Deep.RegionHeld
import Derived.SliceStrings
namespace Go.Proofs.Ybulkbpk.lawS0127BSupersede
open Go.ChangeShapes Go.WideShapes Go.ChangeAt Go.RowKit
open Go.ChangeMaps (open_string shut_string)
open PB
set_option linter.unusedVariables false

theorem own : ownKnob Yba.prog.godebug = none := by kernel_rfl
theorem laidOut : laidOutB Yba.prog = true := by kernel_rfl

/-- What the walk is told of the slice of strings. -/
def IsStrs (w : World) (a : Option Addr) (len : Nat) (ks : Nat → ByteArray) : Prop := len ≤ maxLen ∧ SrcS w a len ks ∧ ∀ i, (ks i).size ≤ maxLen
def IsInts (w : World) (a : Option Addr) (len : Nat) (vs : Nat → Int) : Prop := len ≤ maxLen ∧ SrcI w a len vs ∧ ∀ i, (Lit.int .i64 (vs i)).wf = true
theorem add_block (x : Addr) (i : Nat) : (x.add i).block = x.block := by unfold Addr.add; split <;> rfl
theorem getD_all {α : Type} {P : α → Prop} {l : List α} {d : α} (h : ∀ s ∈ l, P s) (hd : P d) (i : Nat) : P (l.getD i d) := by
  rw [List.getD_eq_getElem?_getD]
  by_cases hi : i < l.length
  · rw [List.getElem?_eq_getElem hi]; exact h _ (List.getElem_mem hi)
  · rw [List.getElem?_eq_none (by omega)]; exact hd
theorem vl_wf (lv : Nat) {vs : Nat → Int} (h : ∀ i, (Lit.int .i64 (vs i)).wf = true) (i : Nat) : (Lit.int .i64 (vl lv vs i)).wf = true := by
  unfold vl; split
  · exact h _
  · decide

set_option maxRecDepth 100000 in
set_option maxHeartbeats 400000 in
theorem walk (a0 : Option Addr) (n c0 : Nat) (ks : Nat → ByteArray) (a1 : Option Addr) (lv c1 : Nat) (vs : Nat → Int) (sel : Int) (key : ByteArray) (sz live dead : Int) (w : World)
    (w0 : IsStrs w a0 n ks) (w1 : IsInts w a1 lv vs) (w2 : (Lit.int .u8 sel).wf = true) (w3 : key.size ≤ maxLen) (w4 : (Lit.int .i64 sz).wf = true) :
    Calls Yba.prog 3 #[.slice a0 n c0, .slice a1 lv c1, .int .u8 sel, .string key, .int .i64 sz, .int .i64 live, .int .i64 dead] w fun e w' => e = .returned (.bool true) ∧ Below w.heap.size w w' := by
  by_cases hn : n ≤ 1024
  · obtain ⟨hs0, hs1⟩ := bounds_u8 w2
    obtain ⟨m, rfl⟩ := Int.eq_ofNat_of_zero_le hs0
    by_cases h0 : 0 < n
    · by_cases he : (m : Int) % 2 = 0
      · exact law_b a0 a1 n c0 lv c1 ks vs m key sz live dead w w1.1 w0.2.1 w1.2.1 w0.2.2 (vl_wf lv w1.2.2) w3 (by omega) w4 hn h0 (by simpa using he)
      · exact law_c a0 a1 n c0 lv c1 ks vs m key sz live dead w w1.1 w0.2.1 w1.2.1 w0.2.2 (vl_wf lv w1.2.2) w3 (by omega) w4 hn h0 (by simpa using he)
    · exact law_a a0 a1 n c0 lv c1 ks vs m key sz live dead w w1.1 w0.2.1 w1.2.1 w0.2.2 (vl_wf lv w1.2.2) w3 (by omega) w4 hn h0
  · have hn' : (1024 : Int) < (n : Int) := by omega
    clear w0 w1
    go_enter Yba.func3, Yba.ntmps3
    go_wp2_with fail
    go_ret
    exact ⟨rfl, Below.refl _ _⟩

set_option maxRecDepth 100000 in
theorem lifted (os : Os) (started : os.Started) (H : Type) (enc : TypeId × Value → H) :
    ReturnsInHanded {} Yba.checked os 3 .any (Rows.lawS0127BSupersedeSpec.pre6 enc Yba.prog Yba.f3 Rows.lawS0127BSupersedeRow.domain false) (Rows.lawS0127BSupersedeSpec.post enc Yba.prog Yba.f3 false true false false) := by
  refine returnsInHanded_of_change (C := Yba.checked) own started (by kernel_rfl) Yba.func3
    (ChangeSpec.witness6 (enc := enc) (C := Yba.checked) false ⟨#[], #[.slice none 0 0, .slice none 0 0, .int .u8 0, .string ByteArray.empty, .int .i64 0, .int .i64 0, .int .i64 0], []⟩ 8 (by kernel_rfl) (by kernel_rfl) (by kernel_rfl) (by kernel_rfl)) ?_
  intro W base args ds gs before hval0 hW hcnd _
  have hval : ∀ (j : Nat) t v, Yba.f3.params[j]? = some t → args[j]? = some v → Value.okWide Yba.prog W .any base t v := hval0
  have hW' := hW
  obtain ⟨p, q, hA0, hV, rfl, hfz, hnd⟩ := hW
  have hA : DataW.TrodAll enc Yba.prog W 0 (fun _ => true) true Yba.f3.params.toList args.toList ds p := hA0
  rw [Yba.params3] at hA hval
  obtain ⟨v0, vs0, d0, ds0, p0, q0, hargs, rfl, rfl, h0, r0⟩ := trodAll_cons hA
  obtain ⟨v1, vs1, d1, ds1, p1, q1, rfl, rfl, rfl, h1, r1⟩ := trodAll_cons r0
  obtain ⟨v2, vs2, d2, ds2, p2, q2, rfl, rfl, rfl, h2, r2⟩ := trodAll_cons r1
  obtain ⟨v3, vs3, d3, ds3, p3, q3, rfl, rfl, rfl, h3, r3⟩ := trodAll_cons r2
  obtain ⟨v4, vs4, d4, ds4, p4, q4, rfl, rfl, rfl, h4, r4⟩ := trodAll_cons r3
  obtain ⟨v5, vs5, d5, ds5, p5, q5, rfl, rfl, rfl, h5, r5⟩ := trodAll_cons r4
  obtain ⟨v6, vs6, d6, ds6, p6, q6, rfl, rfl, rfl, h6, r6⟩ := trodAll_cons r5
  obtain ⟨rfl, rfl, rfl⟩ := trodAll_nil r6
  obtain rfl : args = #[v0, v1, v2, v3, v4, v5, v6] := by cases args; simp_all
  obtain ⟨rfl, rfl⟩ := trodVars_none hV
  obtain ⟨a0, len0, cap0, rfl⟩ := okWide_slice Yba.underlying22 (hval 0 22 v0 rfl rfl)
  have k0 := h0
  have lt0 : ∀ x ∈ p0, x.block < W.heap.size := by obtain ⟨m, hm⟩ := k0; exact DataW.trod_lt m _ _ _ hm
  obtain ⟨ks, w0⟩ : ∃ ks, IsStrs W a0 len0 ks := by
    obtain ⟨fuel, hf⟩ := h0
    rcases open_strings Yba.underlying22 Yba.underlying9 (by kernel_rfl) hf with ⟨hcs, _⟩ | ⟨x, l, c, ss, hcs, _, hl, hm, hz, _, hcell, hws⟩
    · simp [Value.cells] at hcs
      obtain ⟨rfl, rfl, rfl⟩ := hcs
      exact ⟨fun _ => ByteArray.empty, Nat.zero_le _, fun i hi => by omega, fun i => Nat.zero_le _⟩
    · simp [Value.cells] at hcs
      obtain ⟨rfl, rfl, rfl⟩ := hcs
      have hz' : ss.length = cap0 := by simpa using hz
      refine ⟨fun i => ss.getD i ByteArray.empty, by omega, fun i hi => ?_, fun i => ?_⟩
      · have hc := hcell i (by omega)
        have := World.block_lt_of_cell? W _ hc
        rw [add_block] at this
        exact ⟨_, rfl, hc, this⟩
      · exact getD_all (P := fun s : ByteArray => s.size ≤ maxLen) hws (Nat.zero_le _) i
  obtain ⟨a1, len1, cap1, rfl⟩ := okWide_slice Yba.underlying23 (hval 1 23 v1 rfl rfl)
  have k1 := h1
  have lt1 : ∀ x ∈ p1, x.block < W.heap.size := by obtain ⟨m, hm⟩ := k1; exact DataW.trod_lt m _ _ _ hm
  obtain ⟨vs, w1⟩ : ∃ vs, IsInts W a1 len1 vs := by
    obtain ⟨fuel, hf⟩ := h1
    rcases open_ints Yba.underlying23 Yba.underlying3 (by kernel_rfl) hf with ⟨hcs, _⟩ | ⟨x, l, c, zs, hcs, _, hl, hm, hz, _, hcell, hwz⟩
    · simp [Value.cells] at hcs
      obtain ⟨rfl, rfl, rfl⟩ := hcs
      exact ⟨fun _ => 0, Nat.zero_le _, fun i hi => by omega, fun i => rfl⟩
    · simp [Value.cells] at hcs
      obtain ⟨rfl, rfl, rfl⟩ := hcs
      have hz' : zs.length = cap1 := by simpa using hz
      refine ⟨fun i => zs.getD i 0, by omega, fun i hi => ?_, fun i => ?_⟩
      · have hc := hcell i (by omega)
        have := World.block_lt_of_cell? W _ hc
        rw [add_block] at this
        exact ⟨_, rfl, hc, this⟩
      · exact getD_all (P := fun n : Int => (Lit.int .i64 n).wf = true) hwz (by decide) i
  obtain ⟨a2, rfl, rfl, rfl, w2⟩ := open_int Yba.underlying5 (hval 2 5 v2 rfl rfl) h2
  obtain ⟨a3, rfl, rfl, rfl, w3⟩ := open_string Yba.underlying9 (hval 3 9 v3 rfl rfl) h3
  obtain ⟨a4, rfl, rfl, rfl, w4⟩ := open_int Yba.underlying3 (hval 4 3 v4 rfl rfl) h4
  obtain ⟨a5, rfl, rfl, rfl, w5⟩ := open_int Yba.underlying3 (hval 5 3 v5 rfl rfl) h5
  obtain ⟨a6, rfl, rfl, rfl, w6⟩ := open_int Yba.underlying3 (hval 6 3 v6 rfl rfl) h6
  clear hA0 hval0
  refine (walk a0 len0 cap0 ks a1 len1 cap1 vs a2 a3 a4 a5 a6 W w0 w1 w2 w3 w4).mono fun e W' ⟨he, bel⟩ => ?_
  subst he
  exact ⟨_, rfl, _, _, _, [], _, [], hW', trodAll_mk1 (shut_bool Yba.underlying4 _), (trodAll_cons_mk (Below.trod laidOut (by kernel_rfl) (of_decide_eq_true (by kernel_rfl)) k0 bel lt0) (trodAll_cons_mk (Below.trod laidOut (by kernel_rfl) (of_decide_eq_true (by kernel_rfl)) k1 bel lt1) (trodAll_cons_mk (shut_int Yba.underlying5 w2) (trodAll_cons_mk (shut_string Yba.underlying9 w3) (trodAll_cons_mk (shut_int Yba.underlying3 w4) (trodAll_cons_mk (shut_int Yba.underlying3 w5) (trodAll_cons_mk (shut_int Yba.underlying3 w6) trodAll_mk0))))))), rfl, bel.frame _, fun h => by cases h⟩

theorem over : Rows.lawS0127BSupersedeRow.holds Yba.pinned (OpenSpec.ofChange Rows.lawS0127BSupersedeSpec) :=
  OpenClaim.holds_of_wide 3 Yba.f3 rfl rfl rfl rfl rfl rfl rfl ⟨rfl, rfl, rfl, rfl, rfl⟩ rfl rfl rfl rfl rfl (by kernel_rfl) Yba.func3 (by kernel_rfl)
    (of_decide_eq_true (by kernel_rfl)) (by unfold Func.isWrapper; first | (rw [if_pos (by decide +kernel)]; kernel_rfl) | (rw [if_neg (by decide +kernel)]; exact ⟨rfl, rfl⟩))
    (fun os started H enc _ => lifted os started H enc)

/-- THE STATEMENT -/
theorem proved : Rows.LawS0127BSupersedeSaid := over
end Go.Proofs.Ybulkbpk.lawS0127BSupersede
