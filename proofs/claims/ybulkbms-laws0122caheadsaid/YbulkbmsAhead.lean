import Derived.Test.YbulkbmsWake
import Derived.WalkKit
import Derived.ProofKit
import Derived.OpenShut
import Derived.ShutString
namespace Go.Proofs.Ybulkbms.lawS0122CAhead
open Go.ChangeShapes Go.WideShapes Go.ChangeAt Go.RowKit
open Go.ChangeMaps (open_string shut_string)
set_option linter.unusedVariables false      -- a walk need not use every 'w<i>' (that an integer argument fits its kind)

theorem own : ownKnob Yba.prog.godebug = none := by kernel_rfl

theorem hide {p : Prop} (h : p) : Hid p := h
theorem unhide {p : Prop} (h : Hid p) : p := h
theorem wrap_in (n : Int) (h : -9223372036854775808 ≤ n ∧ n ≤ 9223372036854775807) : IntKind.i64.wrap n = n := by
  rw [IntKind.wrap_i64]; omega
theorem tm_in (d : Int) (h1 : 1 ≤ d) (h2 : d ≤ 1317624576693539401) : tm d 0 = 3 * d ∧ tm d 1 = 6 * d ∧ tm d 2 = 7 * d :=
  ⟨wrap_in _ (by omega), wrap_in _ (by omega), wrap_in _ (by omega)⟩
/-- A fresh party wakes at three times Delta. -/
theorem st_fresh (d : Int) (h1 : 1 ≤ d) (h2 : d ≤ 1317624576693539401) : st (-1) (pd false false false) (tm d) 3 = (3 * d, true) := by
  obtain ⟨e0, e1, e2⟩ := tm_in d h1 h2
  have s1 : st (-1) (pd false false false) (tm d) 1 = (3 * d, true) := by
    rw [st, e0, if_pos ⟨rfl, by omega⟩, if_pos (Or.inl (by rfl))]
  have s2 : st (-1) (pd false false false) (tm d) 2 = (3 * d, true) := by
    rw [st, e1, if_pos ⟨rfl, by omega⟩, s1, if_neg (by simp; omega)]
  rw [st, e2, if_pos ⟨rfl, by omega⟩, s2, if_neg (by simp; omega)]
/-- The time that is named lies after now. -/
theorem st_after (nw : Int) (p : Nat → Bool) (t : Nat → Int) : ∀ k, (st nw p t k).2 = true → nw < (st nw p t k).1
  | 0, h => by simp [st] at h
  | k + 1, h => by
    have ih := st_after nw p t k
    rw [st] at h ⊢
    by_cases c : p k = true ∧ nw < t k
    · rw [if_pos c] at h ⊢
      by_cases c2 : (st nw p t k).2 = false ∨ t k < (st nw p t k).1
      · rw [if_pos c2]; exact c.2
      · rw [if_neg c2] at h ⊢; exact ih h
    · rw [if_neg c] at h ⊢; exact ih h
theorem later {w w' : World} {B B1 B2 : Nat} {dl nw : Int} {s0 s1 dn : Bool} (h : IsParty w B B1 B2 dl nw s0 s1 dn) (hb : Below w.heap.size w w') : IsParty w' B B1 B2 dl nw s0 s1 dn := by
  obtain ⟨c3, c8, c9, c10, c15, c16, c18, g1, g2, l0, l1, l2⟩ := h
  have := hb.size
  exact ⟨cell_later hb c3, cell_later hb c8, cell_later hb c9, cell_later hb c10, cell_later hb c15, cell_later hb c16, cell_later hb c18, cell_later hb g1, cell_later hb g2, by omega, by omega, by omega⟩

theorem below2 {w a b : World} (h1 : Below w.heap.size w a) (h2 : Below a.heap.size a b) : Below w.heap.size w b := h1.trans (h2.mono h1.size)
theorem below5 {w a b c d e : World} (h1 : Below w.heap.size w a) (h2 : Below a.heap.size a b) (h3 : Below b.heap.size b c) (h4 : Below c.heap.size c d) (h5 : Below d.heap.size d e) : Below w.heap.size w e :=
  below2 (below2 (below2 (below2 h1 h2) h3) h4) h5

set_option maxHeartbeats 1000000 in
theorem walk (a0 : Int) (a1 : Int) (a2 : Bool) (a3 : Bool) (a4 : Bool) (w0 : (Lit.int .i64 a0).wf = true) (w1 : (Lit.int .i64 a1).wf = true) (w : World) :
    Calls Yba.prog 4 #[.int .i64 a0, .int .i64 a1, .bool a2, .bool a3, .bool a4] w fun e w' => e = .returned (.bool true) ∧ Below w.heap.size w w' := by
  by_cases h1 : a0 < 1
  · go_enter Yba.func4, Yba.ntmps4
    go_wp2_with fail
    go_ret
    exact ⟨rfl, Below.refl _ _⟩
  by_cases h2 : 1317624576693539401 < a0
  · go_enter Yba.func4, Yba.ntmps4
    go_wp2_with fail
    go_ret
    exact ⟨rfl, Below.refl _ _⟩
  have HF := hide (st_fresh a0 (by omega) (by omega))
  have HA := hide (st_after a1 (pd a2 a3 a4) (tm a0) 3)
  go_enter Yba.func4, Yba.ntmps4
  go_wp2_with fail
  refine (party_any a0 a1 a2 a3 a4 _).mono ?_
  rintro e w1 ⟨B, B1, B2, rfl, hP, hb1⟩
  have HP := hide hP
  have HB1 := hide hb1
  clear hP hb1
  go_wp2_with fail
  refine (wake_any B B1 B2 a0 a1 a2 a3 a4 _ (unhide HP)).mono ?_
  rintro e w2 ⟨rfl, hb2⟩
  have HB2 := hide hb2
  have HP2 := hide (later (unhide HP) hb2)
  clear hb2
  obtain ⟨c3, c8, c9, c10, c15, c16, c18, g1, g2, l0, l1, l2⟩ := unhide HP2
  generalize hx : st a1 (pd a2 a3 a4) (tm a0) 3 = x at *
  have HX := hide hx
  clear hx
  obtain ⟨x, y⟩ := x
  have hlt : y = true → a1 < x := (unhide HA)
  cases y
  · clear hlt
    go_wp2_with fail
    refine (wake_any B B1 B2 a0 a1 a2 a3 a4 _ (unhide HP2)).mono ?_
    rintro e w3 ⟨rfl, hb3⟩
    have HB3 := hide hb3
    clear hb3 c3 c8 c9 c10 c15 c16 c18 g1 g2 l0 l1 l2
    rw [unhide HX]
    go_wp2_with fail
    refine (party_any a0 (-1) false false false _).mono ?_
    rintro e w4 ⟨B', B1', B2', rfl, hP', hb4⟩
    have HB4 := hide hb4
    clear hb4
    go_wp2_with fail
    refine (wake_any B' B1' B2' a0 (-1) false false false _ hP').mono ?_
    rintro e w5 ⟨rfl, hb5⟩
    have HB5 := hide hb5
    clear hb5 hP'
    rw [unhide HF]
    go_wp2_with fail
    go_ret
    exact ⟨by simp, below5 (unhide HB1) (unhide HB2) (unhide HB3) (unhide HB4) (unhide HB5)⟩
  · have hlt' : a1 < x := hlt rfl
    clear hlt
    go_wp2_with fail
    refine (wake_any B B1 B2 a0 a1 a2 a3 a4 _ (unhide HP2)).mono ?_
    rintro e w3 ⟨rfl, hb3⟩
    have HB3 := hide hb3
    clear hb3 c3 c8 c9 c10 c15 c16 c18 g1 g2 l0 l1 l2
    rw [unhide HX]
    go_wp2_with fail
    refine (party_any a0 (-1) false false false _).mono ?_
    rintro e w4 ⟨B', B1', B2', rfl, hP', hb4⟩
    have HB4 := hide hb4
    clear hb4
    go_wp2_with fail
    refine (wake_any B' B1' B2' a0 (-1) false false false _ hP').mono ?_
    rintro e w5 ⟨rfl, hb5⟩
    have HB5 := hide hb5
    clear hb5 hP'
    rw [unhide HF]
    go_wp2_with fail
    go_ret
    exact ⟨by simp, below5 (unhide HB1) (unhide HB2) (unhide HB3) (unhide HB4) (unhide HB5)⟩

/-! ### THE ROW's STEP: WRITTEN OUT: LEAVE IT -/
set_option maxRecDepth 100000 in
theorem lifted (os : Os) (started : os.Started) (H : Type) (enc : TypeId × Value → H) :
    ReturnsInHanded {} Yba.checked os 4 .any (Rows.lawS0122CAheadSpec.pre6 enc Yba.prog Yba.f4 Rows.lawS0122CAheadRow.domain false) (Rows.lawS0122CAheadSpec.post enc Yba.prog Yba.f4 false true false false) := by
  refine returnsInHanded_of_change (C := Yba.checked) own started (by kernel_rfl) Yba.func4
    (ChangeSpec.witness6 (enc := enc) (C := Yba.checked) false ⟨#[], #[.int .i64 0, .int .i64 0, .bool false, .bool false, .bool false], []⟩ 8 (by kernel_rfl) (by kernel_rfl) (by kernel_rfl) (by kernel_rfl)) ?_
  intro W base args ds gs before hval0 hW hcnd _
  have hval : ∀ (j : Nat) t v, Yba.f4.params[j]? = some t → args[j]? = some v → Value.okWide Yba.prog W .any base t v := hval0
  have hW' := hW
  obtain ⟨p, q, hA0, hV, rfl, hfz, hnd⟩ := hW
  have hA : DataW.TrodAll enc Yba.prog W 0 (fun _ => true) true Yba.f4.params.toList args.toList ds p := hA0
  rw [Yba.params4] at hA hval
  obtain ⟨v0, vs0, d0, ds0, p0, q0, hargs, rfl, rfl, h0, r0⟩ := trodAll_cons hA
  obtain ⟨v1, vs1, d1, ds1, p1, q1, rfl, rfl, rfl, h1, r1⟩ := trodAll_cons r0
  obtain ⟨v2, vs2, d2, ds2, p2, q2, rfl, rfl, rfl, h2, r2⟩ := trodAll_cons r1
  obtain ⟨v3, vs3, d3, ds3, p3, q3, rfl, rfl, rfl, h3, r3⟩ := trodAll_cons r2
  obtain ⟨v4, vs4, d4, ds4, p4, q4, rfl, rfl, rfl, h4, r4⟩ := trodAll_cons r3
  obtain ⟨rfl, rfl, rfl⟩ := trodAll_nil r4
  obtain rfl : args = #[v0, v1, v2, v3, v4] := by cases args; simp_all
  obtain ⟨rfl, rfl⟩ := trodVars_none hV
  obtain ⟨a0, rfl, rfl, rfl, w0⟩ := open_int Yba.underlying2 (hval 0 2 v0 rfl rfl) h0
  obtain ⟨a1, rfl, rfl, rfl, w1⟩ := open_int Yba.underlying2 (hval 1 2 v1 rfl rfl) h1
  obtain ⟨a2, rfl, rfl, rfl⟩ := open_bool Yba.underlying4 (hval 2 4 v2 rfl rfl) h2
  obtain ⟨a3, rfl, rfl, rfl⟩ := open_bool Yba.underlying4 (hval 3 4 v3 rfl rfl) h3
  obtain ⟨a4, rfl, rfl, rfl⟩ := open_bool Yba.underlying4 (hval 4 4 v4 rfl rfl) h4
  clear hA0 hval0
  simp only [List.append_nil] at hW'
  refine (walk a0 a1 a2 a3 a4 w0 w1 W).mono fun e W' ⟨he, hg⟩ => ?_
  subst he
  exact ⟨_, rfl, _, _, _, [], _, [], hW', trodAll_mk1 (shut_bool Yba.underlying4 _), (trodAll_cons_mk (shut_int Yba.underlying2 w0) (trodAll_cons_mk (shut_int Yba.underlying2 w1) (trodAll_cons_mk (shut_bool Yba.underlying4 _) (trodAll_cons_mk (shut_bool Yba.underlying4 _) (trodAll_cons_mk (shut_bool Yba.underlying4 _) trodAll_mk0))))), rfl, hg.frame _, fun h => by cases h⟩

theorem over : Rows.lawS0122CAheadRow.holds Yba.pinned (OpenSpec.ofChange Rows.lawS0122CAheadSpec) :=
  OpenClaim.holds_of_wide 4 Yba.f4 rfl rfl rfl rfl rfl rfl rfl ⟨rfl, rfl, rfl, rfl, rfl⟩ rfl rfl rfl rfl rfl (by kernel_rfl) Yba.func4 (by kernel_rfl)
    (of_decide_eq_true (by kernel_rfl)) (by unfold Func.isWrapper; first | (rw [if_pos (by decide +kernel)]; kernel_rfl) | (rw [if_neg (by decide +kernel)]; exact ⟨rfl, rfl⟩))
    (fun os started H enc _ => lifted os started H enc)

/-- ████ THE STATEMENT ████ -/
theorem proved : Rows.LawS0122CAheadSaid :=
  over
end Go.Proofs.Ybulkbms.lawS0122CAhead
