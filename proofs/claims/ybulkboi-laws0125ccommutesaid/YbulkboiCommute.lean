import Derived.Test.YbulkboiSrc
import Derived.WalkKit
import Derived.ProofKit
import Derived.OpenShut
import Derived.ShutString
import Derived.ChangeOld
import Derived.Below
namespace Go.Proofs.Ybulkboi.lawS0125CCommute
open Pl
open Go.ChangeShapes Go.WideShapes Go.ChangeAt Go.RowKit
open Go.ChangeMaps (open_string shut_string)
set_option linter.unusedVariables false

theorem own : ownKnob Yba.prog.godebug = none := by kernel_rfl
theorem laidOut : laidOutB Yba.prog = true := by kernel_rfl

set_option maxHeartbeats 1000000 in
theorem walk (a0 : Option Addr) (len0 cap0 : Nat) (z0 : List Int) (a1 : Option Addr) (len1 cap1 : Nat) (z1 : List Int) (a2 : Bool) (a3 : Bool) (w : World) (w0 : IsRow .u64 w a0 len0 cap0 z0) (w1 : IsRow .u64 w a1 len1 cap1 z1) :
    Calls Yba.prog 4 #[.slice a0 len0 cap0, .slice a1 len1 cap1, .bool a2, .bool a3] w fun e w' => e = .returned (.bool true) ∧ Below w.heap.size w w' := by
  by_cases h0 : 1024 < len0
  · go_enter Yba.func4, Yba.ntmps4
    go_wp2_with fail
    go_ret
    exact ⟨rfl, Below.refl _ _⟩
  by_cases h1 : 1024 < len1
  · go_enter Yba.func4, Yba.ntmps4
    go_wp2_with fail
    go_ret
    exact ⟨rfl, Below.refl _ _⟩
  have HA := hide (fun i => flp_wd a2 (isRow_wd w0 i))
  have HB := hide (fun i => flp_wd a3 (isRow_wd w1 i))
  by_cases hc : len1 < len0
  · have HP0 := hide (isRow_src w0 len1 (by omega))
    have HP1 := hide (isRow_src w1 len1 (by omega))
    clear w0 w1
    go_enter Yba.func4, Yba.ntmps4
    go_wp2_with fail
    refine (prep_any a0 len0 cap0 len1 _ a2 _ (by omega) (by omega) HP0.out).mono ?_
    rintro e W1 ⟨rfl, hR1, hz1, hb1⟩
    have R1 := hide hR1.ext
    have B1 := hide hb1
    have Z1 := hide hz1
    have P1 := hide (HP1.out.later hb1)
    have P0 := hide (HP0.out.later hb1)
    clear hR1 hz1 hb1
    go_wp2_with fail
    refine (prep_any a1 len1 cap1 len1 _ a3 _ (by omega) (by omega) P1.out).mono ?_
    rintro e W2 ⟨rfl, hR2, hz2, hb2⟩
    have R2 := hide hR2.ext
    have B2 := hide hb2
    have Z2 := hide hz2
    have R1b := hide (R1.out.below hb2 R1.out.lt)
    have P1b := hide (P1.out.later hb2)
    have P0b := hide (P0.out.later hb2)
    clear hR2 hz2 hb2
    go_wp2_with fail
    refine (prep_any a0 len0 cap0 len1 _ a2 _ (by omega) (by omega) P0b.out).mono ?_
    rintro e W3 ⟨rfl, hR3, hz3, hb3⟩
    have R3 := hide hR3.ext
    have B3 := hide hb3
    have Z3 := hide hz3
    have R1c := hide (R1b.out.below hb3 R1b.out.lt)
    have R2c := hide (R2.out.below hb3 R2.out.lt)
    have P1c := hide (P1b.out.later hb3)
    clear hR3 hz3 hb3
    go_wp2_with fail
    refine (prep_any a1 len1 cap1 len1 _ a3 _ (by omega) (by omega) P1c.out).mono ?_
    rintro e W4 ⟨rfl, hR4, hz4, hb4⟩
    have R4 := hide hR4.ext
    have B4 := hide hb4
    have Z4 := hide hz4
    have R1d := hide (R1c.out.below hb4 R1c.out.lt)
    have R2d := hide (R2c.out.below hb4 R2c.out.lt)
    have R3d := hide (R3.out.below hb4 R3.out.lt)
    clear hR4 hz4 hb4
    go_wp2_with fail
    refine (cyc_any w.heap.size W1.heap.size len1 len1 _ _ _ _ _ (Nat.le_refl _) (by omega) (Nat.le_refl _) (by rw [Z1.out]; omega) (ext_wd _ HA.out) (ext_wd _ HB.out) (ext_zero _ _) R1d.out R2d.out).mono ?_
    rintro e W5 ⟨rfl, hR5, hW5⟩
    have R5 := hide hR5
    have W5' := hide hW5
    have R3e := hide (R3d.out.other hW5 (by rw [Z2.out, Z1.out]; omega))
    have R4e := hide (R4.out.other hW5 (by rw [Z3.out, Z2.out, Z1.out]; omega))
    clear hR5 hW5
    go_wp2_with fail
    refine (cyc_any W3.heap.size W2.heap.size len1 len1 _ _ _ _ _ (Nat.le_refl _) (by omega) (Nat.le_refl _) (by rw [Z3.out]; omega) (ext_wd _ HB.out) (ext_wd _ HA.out) (ext_zero _ _) R4e.out R3e.out).mono ?_
    rintro e W6 ⟨rfl, hR6, hW6⟩
    have R6 := hide (hR6.congr (fun i _ => fin_comm _ _ _ i))
    have W6' := hide hW6
    have R5f := hide (R5.out.other hW6 (by rw [Z3.out, Z2.out, Z1.out]; omega))
    clear hR6 hW6
    go_wp2_with fail
    refine (eq_any w.heap.size W3.heap.size len1 _ _ _ _ (by omega) R5f.out R6.out).mono ?_
    rintro e W7 ⟨rfl, m, hW7⟩
    have W7' := hide hW7
    clear hW7
    go_wp2_with fail
    go_ret
    refine ⟨rfl, ?_⟩
    rw [W7'.out]
    exact below_drewN (((below2 (below2 (below2 B1.out B2.out) B3.out) B4.out).trans (W5'.out.below _ (Nat.le_refl _))).trans (W6'.out.below _ (by rw [Z3.out, Z2.out, Z1.out]; omega))) m
  · have HP0 := hide (isRow_src w0 len0 (by omega))
    have HP1 := hide (isRow_src w1 len0 (by omega))
    clear w0 w1
    go_enter Yba.func4, Yba.ntmps4
    go_wp2_with fail
    refine (prep_any a0 len0 cap0 len0 _ a2 _ (by omega) (by omega) HP0.out).mono ?_
    rintro e W1 ⟨rfl, hR1, hz1, hb1⟩
    have R1 := hide hR1.ext
    have B1 := hide hb1
    have Z1 := hide hz1
    have P1 := hide (HP1.out.later hb1)
    have P0 := hide (HP0.out.later hb1)
    clear hR1 hz1 hb1
    go_wp2_with fail
    refine (prep_any a1 len1 cap1 len0 _ a3 _ (by omega) (by omega) P1.out).mono ?_
    rintro e W2 ⟨rfl, hR2, hz2, hb2⟩
    have R2 := hide hR2.ext
    have B2 := hide hb2
    have Z2 := hide hz2
    have R1b := hide (R1.out.below hb2 R1.out.lt)
    have P1b := hide (P1.out.later hb2)
    have P0b := hide (P0.out.later hb2)
    clear hR2 hz2 hb2
    go_wp2_with fail
    refine (prep_any a0 len0 cap0 len0 _ a2 _ (by omega) (by omega) P0b.out).mono ?_
    rintro e W3 ⟨rfl, hR3, hz3, hb3⟩
    have R3 := hide hR3.ext
    have B3 := hide hb3
    have Z3 := hide hz3
    have R1c := hide (R1b.out.below hb3 R1b.out.lt)
    have R2c := hide (R2.out.below hb3 R2.out.lt)
    have P1c := hide (P1b.out.later hb3)
    clear hR3 hz3 hb3
    go_wp2_with fail
    refine (prep_any a1 len1 cap1 len0 _ a3 _ (by omega) (by omega) P1c.out).mono ?_
    rintro e W4 ⟨rfl, hR4, hz4, hb4⟩
    have R4 := hide hR4.ext
    have B4 := hide hb4
    have Z4 := hide hz4
    have R1d := hide (R1c.out.below hb4 R1c.out.lt)
    have R2d := hide (R2c.out.below hb4 R2c.out.lt)
    have R3d := hide (R3.out.below hb4 R3.out.lt)
    clear hR4 hz4 hb4
    go_wp2_with fail
    refine (cyc_any w.heap.size W1.heap.size len0 len0 _ _ _ _ _ (Nat.le_refl _) (by omega) (Nat.le_refl _) (by rw [Z1.out]; omega) (ext_wd _ HA.out) (ext_wd _ HB.out) (ext_zero _ _) R1d.out R2d.out).mono ?_
    rintro e W5 ⟨rfl, hR5, hW5⟩
    have R5 := hide hR5
    have W5' := hide hW5
    have R3e := hide (R3d.out.other hW5 (by rw [Z2.out, Z1.out]; omega))
    have R4e := hide (R4.out.other hW5 (by rw [Z3.out, Z2.out, Z1.out]; omega))
    clear hR5 hW5
    go_wp2_with fail
    refine (cyc_any W3.heap.size W2.heap.size len0 len0 _ _ _ _ _ (Nat.le_refl _) (by omega) (Nat.le_refl _) (by rw [Z3.out]; omega) (ext_wd _ HB.out) (ext_wd _ HA.out) (ext_zero _ _) R4e.out R3e.out).mono ?_
    rintro e W6 ⟨rfl, hR6, hW6⟩
    have R6 := hide (hR6.congr (fun i _ => fin_comm _ _ _ i))
    have W6' := hide hW6
    have R5f := hide (R5.out.other hW6 (by rw [Z3.out, Z2.out, Z1.out]; omega))
    clear hR6 hW6
    go_wp2_with fail
    refine (eq_any w.heap.size W3.heap.size len0 _ _ _ _ (by omega) R5f.out R6.out).mono ?_
    rintro e W7 ⟨rfl, m, hW7⟩
    have W7' := hide hW7
    clear hW7
    go_wp2_with fail
    go_ret
    refine ⟨rfl, ?_⟩
    rw [W7'.out]
    exact below_drewN (((below2 (below2 (below2 B1.out B2.out) B3.out) B4.out).trans (W5'.out.below _ (Nat.le_refl _))).trans (W6'.out.below _ (by rw [Z3.out, Z2.out, Z1.out]; omega))) m

/-! ### THE ROW's STEP: WRITTEN OUT: LEAVE IT -/
set_option maxRecDepth 100000 in
theorem lifted (os : Os) (started : os.Started) (H : Type) (enc : TypeId × Value → H) :
    ReturnsInHanded {} Yba.checked os 4 .any (Rows.lawS0125CCommuteSpec.pre6 enc Yba.prog Yba.f4 Rows.lawS0125CCommuteRow.domain false) (Rows.lawS0125CCommuteSpec.post enc Yba.prog Yba.f4 false true false false) := by
  refine returnsInHanded_of_change (C := Yba.checked) own started (by kernel_rfl) Yba.func4
    (ChangeSpec.witness6 (enc := enc) (C := Yba.checked) false ⟨#[], #[.slice none 0 0, .slice none 0 0, .bool false, .bool false], []⟩ 8 (by kernel_rfl) (by kernel_rfl) (by kernel_rfl) (by kernel_rfl)) ?_
  intro W base args ds gs before hval0 hW hcnd _
  have hval : ∀ (j : Nat) t v, Yba.f4.params[j]? = some t → args[j]? = some v → Value.okWide Yba.prog W .any base t v := hval0
  have hW' := hW
  obtain ⟨p, q, hA0, hV, rfl, hfz, hnd⟩ := hW
  have hA : DataW.TrodAll enc Yba.prog W 0 (fun _ => true) true Yba.f4.params.toList args.toList ds p := hA0
  rw [Yba.params4] at hA hval
  obtain ⟨v0, vs0, d0, ds0, p0, q0, hargs, rfl, rfl, h0, r0⟩ := trodAll_cons hA
  obtain ⟨v1, vs1, d1, ds1, p1, q1, rfl, rfl, rfl, h1, r1⟩ := trodAll_cons r0
  obtain ⟨v2, vs2, d2, ds2, p2, q2, rfl, rfl, rfl, h2, r2⟩ := trodAll_cons r1
  obtain ⟨v3, vs3, d3, ds3, p3, q3, rfl, rfl, rfl, h3, r3⟩ := trodAll_cons r2
  obtain ⟨rfl, rfl, rfl⟩ := trodAll_nil r3
  obtain rfl : args = #[v0, v1, v2, v3] := by cases args; simp_all
  obtain ⟨rfl, rfl⟩ := trodVars_none hV
  obtain ⟨a0, len0, cap0, rfl⟩ := okWide_slice Yba.underlying22 (hval 0 22 v0 rfl rfl)
  have k0 := h0
  have lt0 : ∀ x ∈ p0, x.block < W.heap.size := by obtain ⟨m, hm⟩ := k0; exact DataW.trod_lt m _ _ _ hm
  obtain ⟨z0, w0⟩ : ∃ zs, IsRow .u64 W a0 len0 cap0 zs := by
    obtain ⟨fuel, hf⟩ := h0
    rcases open_ints Yba.underlying22 Yba.underlying28 (by kernel_rfl) hf with ⟨hcs, _⟩ | ⟨x, l, c, zs, hcs, _, hl, hm, hz, _, hcell, hwz⟩
    · simp [Value.cells] at hcs
      obtain ⟨rfl, rfl, rfl⟩ := hcs
      exact ⟨[], .inl ⟨rfl, rfl, rfl, rfl⟩⟩
    · simp [Value.cells] at hcs
      obtain ⟨rfl, rfl, rfl⟩ := hcs
      exact ⟨zs, .inr ⟨_, rfl, hl, hm, by simpa using hz, hcell, hwz⟩⟩
  obtain ⟨a1, len1, cap1, rfl⟩ := okWide_slice Yba.underlying22 (hval 1 22 v1 rfl rfl)
  have k1 := h1
  have lt1 : ∀ x ∈ p1, x.block < W.heap.size := by obtain ⟨m, hm⟩ := k1; exact DataW.trod_lt m _ _ _ hm
  obtain ⟨z1, w1⟩ : ∃ zs, IsRow .u64 W a1 len1 cap1 zs := by
    obtain ⟨fuel, hf⟩ := h1
    rcases open_ints Yba.underlying22 Yba.underlying28 (by kernel_rfl) hf with ⟨hcs, _⟩ | ⟨x, l, c, zs, hcs, _, hl, hm, hz, _, hcell, hwz⟩
    · simp [Value.cells] at hcs
      obtain ⟨rfl, rfl, rfl⟩ := hcs
      exact ⟨[], .inl ⟨rfl, rfl, rfl, rfl⟩⟩
    · simp [Value.cells] at hcs
      obtain ⟨rfl, rfl, rfl⟩ := hcs
      exact ⟨zs, .inr ⟨_, rfl, hl, hm, by simpa using hz, hcell, hwz⟩⟩
  obtain ⟨a2, rfl, rfl, rfl⟩ := open_bool Yba.underlying4 (hval 2 4 v2 rfl rfl) h2
  obtain ⟨a3, rfl, rfl, rfl⟩ := open_bool Yba.underlying4 (hval 3 4 v3 rfl rfl) h3
  clear hA0 hval0
  refine (walk a0 len0 cap0 z0 a1 len1 cap1 z1 a2 a3 W w0 w1).mono fun e W' ⟨he, bel⟩ => ?_
  subst he
  exact ⟨_, rfl, _, _, _, [], _, [], hW', trodAll_mk1 (shut_bool Yba.underlying4 _), (trodAll_cons_mk (Below.trod laidOut (by kernel_rfl) (of_decide_eq_true (by kernel_rfl)) k0 bel lt0) (trodAll_cons_mk (Below.trod laidOut (by kernel_rfl) (of_decide_eq_true (by kernel_rfl)) k1 bel lt1) (trodAll_cons_mk (shut_bool Yba.underlying4 _) (trodAll_cons_mk (shut_bool Yba.underlying4 _) trodAll_mk0)))), rfl, bel.frame _, fun h => by cases h⟩

theorem over : Rows.lawS0125CCommuteRow.holds Yba.pinned (OpenSpec.ofChange Rows.lawS0125CCommuteSpec) :=
  OpenClaim.holds_of_wide 4 Yba.f4 rfl rfl rfl rfl rfl rfl rfl ⟨rfl, rfl, rfl, rfl, rfl⟩ rfl rfl rfl rfl rfl (by kernel_rfl) Yba.func4 (by kernel_rfl)
    (of_decide_eq_true (by kernel_rfl)) (by unfold Func.isWrapper; first | (rw [if_pos (by decide +kernel)]; kernel_rfl) | (rw [if_neg (by decide +kernel)]; exact ⟨rfl, rfl⟩))
    (fun os started H enc _ => lifted os started H enc)

/-- ████ THE STATEMENT ████ -/
theorem proved : Rows.LawS0125CCommuteSaid := over
end Go.Proofs.Ybulkboi.lawS0125CCommute
