import Derived.Test.YbulkbmsWake
import Derived.WalkKit
import Derived.ProofKit
import Derived.OpenShut
import Derived.ShutString
namespace Go.Proofs.Ybulkbms.lawS0122CExact
open Go.ChangeShapes Go.WideShapes Go.ChangeAt Go.RowKit
open Go.ChangeMaps (open_string shut_string)
set_option linter.unusedVariables false      -- a walk need not use every 'w<i>' (that an integer argument fits its kind)

theorem own : ownKnob Yba.prog.godebug = none := by kernel_rfl

theorem tm0 (d : Int) : wrap64 (d * 3) = tm d 0 := by
  show _ = IntKind.i64.wrap (3 * d)
  rw [Int.mul_comm, IntKind.wrap_i64, wrap64]
theorem tm1 (d : Int) : wrap64 (d * 6) = tm d 1 := by
  show _ = IntKind.i64.wrap (6 * d)
  rw [Int.mul_comm, IntKind.wrap_i64, wrap64]
theorem tm2 (d : Int) : wrap64 (d * 7) = tm d 2 := by
  show _ = IntKind.i64.wrap (7 * d)
  rw [Int.mul_comm, IntKind.wrap_i64, wrap64]

set_option maxHeartbeats 1000000 in
theorem walk (a0 : Int) (a1 : Int) (a2 : Bool) (a3 : Bool) (a4 : Bool) (w0 : (Lit.int .i64 a0).wf = true) (w1 : (Lit.int .i64 a1).wf = true) (w : World) :
    Calls Yba.prog 3 #[.int .i64 a0, .int .i64 a1, .bool a2, .bool a3, .bool a4] w fun e w' => e = .returned (.bool true) ∧ Below w.heap.size w w' := by
  go_enter Yba.func3, Yba.ntmps3
  go_wp2_with fail
  refine (party_any a0 a1 a2 a3 a4 _).mono ?_
  rintro e w1 ⟨B, B1, B2, rfl, hP, hb1⟩
  go_wp2_with fail
  refine (wake_any B B1 B2 a0 a1 a2 a3 a4 _ hP).mono ?_
  rintro e w2 ⟨rfl, hb2⟩
  generalize hF : st a1 (pd a2 a3 a4) (tm a0) = F
  have HF : Hid (st a1 (pd a2 a3 a4) (tm a0) = F) := hF
  have hsz := hb2.size
  have hsz1 := hb1.size
  clear hF hP
  go_wp2_with fail
  go_loop [16, 17, 18] (fun x y i => ∃ k : Nat, k ≤ 3 ∧ i = .int .i64 k ∧ x = .int .i64 (F k).1 ∧ y = .bool (F k).2) (fun _ _ i => 3 - (intOf i).toNat)
  case atStart => exact ⟨0, by omega, rfl, by rw [← HF.out]; rfl, by rw [← HF.out]; rfl⟩
  case round =>
    obtain ⟨k, hk, rfl, rfl, rfl⟩ := hrel
    have HS : Hid (F (k + 1) = if pd a2 a3 a4 k = true ∧ a1 < tm a0 k then (if (F k).2 = false ∨ tm a0 k < (F k).1 then (tm a0 k, true) else F k) else F k) := by rw [← HF.out]; rfl
    generalize hx : F k = x at *
    obtain ⟨x, y⟩ := x
    rcases (show k = 0 ∨ k = 1 ∨ k = 2 ∨ k = 3 by omega) with rfl | rfl | rfl | rfl
    · rw [← tm0] at HS
      go_wp2
      all_goals
        go_round
        case rel =>
          refine ⟨_, _, _, ⟨1, by omega, by go_num, ?_, ?_⟩, rfl, rfl, rfl⟩ <;> (have hs := HS.out; simp only [Nat.reduceAdd] at hs; rw [hs]; first | (simp [pd, *]; done) | (simp [pd, *]; rw [if_neg (by omega)]; done) | (simp [pd, *]; omega))
        case measure => simp [intOf]
    · rw [← tm1] at HS
      go_wp2
      all_goals
        go_round
        case rel =>
          refine ⟨_, _, _, ⟨2, by omega, by go_num, ?_, ?_⟩, rfl, rfl, rfl⟩ <;> (have hs := HS.out; simp only [Nat.reduceAdd] at hs; rw [hs]; first | (simp [pd, *]; done) | (simp [pd, *]; rw [if_neg (by omega)]; done) | (simp [pd, *]; omega))
        case measure => simp [intOf]
    · rw [← tm2] at HS
      go_wp2
      all_goals
        go_round
        case rel =>
          refine ⟨_, _, _, ⟨3, by omega, by go_num, ?_, ?_⟩, rfl, rfl, rfl⟩ <;> (have hs := HS.out; simp only [Nat.reduceAdd] at hs; rw [hs]; first | (simp [pd, *]; done) | (simp [pd, *]; rw [if_neg (by omega)]; done) | (simp [pd, *]; omega))
        case measure => simp [intOf]
    · have hx1 : (F 3).1 = x := by rw [hx]
      have hx2 : (F 3).2 = y := by rw [hx]
      go_wp2
      go_ret
      exact ⟨rfl, ((hb1.trans (hb2.mono hsz1)).alloc (by omega) _).alloc (by simp; omega) _⟩

/-! ### THE ROW's STEP: WRITTEN OUT: LEAVE IT -/
set_option maxRecDepth 100000 in
theorem lifted (os : Os) (started : os.Started) (H : Type) (enc : TypeId × Value → H) :
    ReturnsInHanded {} Yba.checked os 3 .any (Rows.lawS0122CExactSpec.pre6 enc Yba.prog Yba.f3 Rows.lawS0122CExactRow.domain false) (Rows.lawS0122CExactSpec.post enc Yba.prog Yba.f3 false true false false) := by
  refine returnsInHanded_of_change (C := Yba.checked) own started (by kernel_rfl) Yba.func3
    (ChangeSpec.witness6 (enc := enc) (C := Yba.checked) false ⟨#[], #[.int .i64 0, .int .i64 0, .bool false, .bool false, .bool false], []⟩ 8 (by kernel_rfl) (by kernel_rfl) (by kernel_rfl) (by kernel_rfl)) ?_
  intro W base args ds gs before hval0 hW hcnd _
  have hval : ∀ (j : Nat) t v, Yba.f3.params[j]? = some t → args[j]? = some v → Value.okWide Yba.prog W .any base t v := hval0
  have hW' := hW
  obtain ⟨p, q, hA0, hV, rfl, hfz, hnd⟩ := hW
  have hA : DataW.TrodAll enc Yba.prog W 0 (fun _ => true) true Yba.f3.params.toList args.toList ds p := hA0
  rw [Yba.params3] at hA hval
  obtain ⟨v0, vs0, d0, ds0, p0, q0, hargs, rfl, rfl, h0, r0⟩ := trodAll_cons hA
  obtain ⟨v1, vs1, d1, ds1, p1, q1, rfl, rfl, rfl, h1, r1⟩ := trodAll_cons r0
  obtain ⟨v2, vs2, d2, ds2, p2, q2, rfl, rfl, rfl, h2, r2⟩ := trodAll_cons r1
  obtain ⟨v3, vs3, d3, ds3, p3, q3, rfl, rfl, rfl, h3, r3⟩ := trodAll_cons r2
  obtain ⟨v4, vs4, d4, ds4, p4, q4, rfl, rfl, rfl, h4, r4⟩ := trodAll_cons r3
  obtain ⟨rfl, rfl, rfl⟩ := trodAll_nil r4
  obtain rfl : args = #[v0, v1, v2, v3, v4] := by cases args; simp_all
  obtain ⟨rfl, rfl⟩ := trodVars_none hV
  obtain ⟨a0, rfl, rfl, rfl, w0⟩ := open_int Yba.underlying2 (hval 0 2 v0 rfl rfl) h0
  obtain ⟨a1, rfl, rfl, rfl, w1⟩ := open_int Yba.underlying2 (hval 1 2 v1 rfl rfl) h1
  obtain ⟨a2, rfl, rfl, rfl⟩ := open_bool Yba.underlying4 (hval 2 4 v2 rfl rfl) h2
  obtain ⟨a3, rfl, rfl, rfl⟩ := open_bool Yba.underlying4 (hval 3 4 v3 rfl rfl) h3
  obtain ⟨a4, rfl, rfl, rfl⟩ := open_bool Yba.underlying4 (hval 4 4 v4 rfl rfl) h4
  clear hA0 hval0
  simp only [List.append_nil] at hW'
  refine (walk a0 a1 a2 a3 a4 w0 w1 W).mono fun e W' ⟨he, hg⟩ => ?_
  subst he
  exact ⟨_, rfl, _, _, _, [], _, [], hW', trodAll_mk1 (shut_bool Yba.underlying4 _), (trodAll_cons_mk (shut_int Yba.underlying2 w0) (trodAll_cons_mk (shut_int Yba.underlying2 w1) (trodAll_cons_mk (shut_bool Yba.underlying4 _) (trodAll_cons_mk (shut_bool Yba.underlying4 _) (trodAll_cons_mk (shut_bool Yba.underlying4 _) trodAll_mk0))))), rfl, hg.frame _, fun h => by cases h⟩

theorem over : Rows.lawS0122CExactRow.holds Yba.pinned (OpenSpec.ofChange Rows.lawS0122CExactSpec) :=
  OpenClaim.holds_of_wide 3 Yba.f3 rfl rfl rfl rfl rfl rfl rfl ⟨rfl, rfl, rfl, rfl, rfl⟩ rfl rfl rfl rfl rfl (by kernel_rfl) Yba.func3 (by kernel_rfl)
    (of_decide_eq_true (by kernel_rfl)) (by unfold Func.isWrapper; first | (rw [if_pos (by decide +kernel)]; kernel_rfl) | (rw [if_neg (by decide +kernel)]; exact ⟨rfl, rfl⟩))
    (fun os started H enc _ => lifted os started H enc)

/-- ████ THE STATEMENT ████ -/
theorem proved : Rows.LawS0122CExactSaid :=
  over
end Go.Proofs.Ybulkbms.lawS0122CExact
