import Derived.Test.YbulkbmsFmtCards
import Derived.Test.YbulkbmsFmtLaw
import Derived.ProofKit
import Derived.Stop.JoinedAt
import Derived.Stop.JoinedTold
import Derived.SevenToldRow
import Derived.OpenShut
namespace Go.Proofs.YbulkbmsFmt
open Go.ChangeShapes Go.WideShapes Go.ChangeAt Go.RowKit

theorem Ybaf.own : ownKnob Ybaf.prog.godebug = none := by kernel_rfl
theorem Ybaf.laidOut : laidOutB Ybaf.prog = true := by kernel_rfl
theorem Ybaf.stops : Ybaf.pinned.checked.prog.stops = ["fmt.errorf"] := by kernel_rfl
theorem Ybaf.stopKnobs : Ybaf.pinned.checked.prog.stopKnobs = [] := by kernel_rfl
theorem Ybaf.quiet (os : Os) : Stop.quiet Ybaf.pinned.checked.prog os := by
  intro k hk
  rw [Ybaf.stopKnobs] at hk
  cases hk

set_option maxRecDepth 100000 in
theorem law_lifted (os : Os) (started : os.Started) (H : Type) (enc : TypeId × Value → H) :
    ReturnsInTold none {} Ybaf.checked os 3 .any Input.okWide ((OpenSpec.ofChange Rows.lawS0122BModelSpec).preRow enc Ybaf.prog Ybaf.f3 [] false []) (fun F => ((OpenSpec.ofChange Rows.lawS0122BModelSpec).at F).post enc Ybaf.prog Ybaf.f3 false true false false) (aloneAtReturn Ybaf.prog) nothingAlways := by
  refine returnsInTold_of_row (C := Ybaf.checked) (s := OpenSpec.ofChange Rows.lawS0122BModelSpec) (by kernel_rfl) Ybaf.own started (by kernel_rfl) Ybaf.func3
    (OpenSpec.witness_stopped (enc := enc) (C := Ybaf.checked) false ⟨#[], #[.slice none 0 0, .slice none 0 0], []⟩ 8 (by kernel_rfl) (by kernel_rfl) (by kernel_rfl) (by kernel_rfl)) ?_
  intro F W base args ds gs before _ hF hval0 hW _ _ _ _ _
  have hval : ∀ (j : Nat) t v, Ybaf.f3.params[j]? = some t → args[j]? = some v → Value.okWide Ybaf.prog W .any base t v := hval0
  have hW' := hW
  obtain ⟨p, q, hA0, hV, rfl, hfz, hnd⟩ := hW
  have hA : DataW.TrodAll enc Ybaf.prog W 0 (fun _ => true) true Ybaf.f3.params.toList args.toList ds p := hA0
  rw [Ybaf.params3] at hA hval
  obtain ⟨v0, v1, d0, d1, p0, p1, rfl, rfl, rfl, h0, h1⟩ := trodAll_two hA
  obtain ⟨rfl, rfl⟩ := trodVars_none hV
  obtain ⟨a0, len0, cap0, rfl⟩ := okWide_slice Ybaf.underlying22 (hval 0 22 v0 rfl rfl)
  have k0 := h0
  have lt0 : ∀ x ∈ p0, x.block < W.heap.size := by obtain ⟨m, hm⟩ := k0; exact DataW.trod_lt m _ _ _ hm
  obtain ⟨pv, hp, hpv, hl0⟩ : ∃ pv : Nat → Nat, (∀ j, j < len0 → ∃ b o, a0 = some ⟨b, o, none⟩ ∧ W.cell? ⟨b, o + j, none⟩ = some (.int .u8 (pv j : Int))) ∧ (∀ j, pv j < 256) ∧ len0 ≤ 9223372036854775807 := by
    obtain ⟨fuel, hf⟩ := h0
    rcases open_ints Ybaf.underlying22 Ybaf.underlying5 (by kernel_rfl) hf with ⟨hcs, _⟩ | ⟨x, l, c, zs, hcs, _, hl, hm, hz, _, hcell, hwz⟩
    · simp [Value.cells] at hcs
      obtain ⟨rfl, rfl, rfl⟩ := hcs
      exact ⟨fun _ => 0, fun j hj => by omega, fun _ => Nat.zero_lt_succ _, by omega⟩
    · simp [Value.cells] at hcs
      obtain ⟨rfl, rfl, rfl⟩ := hcs
      have hzc : zs.length = cap0 := by simpa using hz
      have hm' : cap0 ≤ 9223372036854775807 := by simpa [maxLen] using hm
      have hb8 : ∀ j, 0 ≤ zs.getD j 0 ∧ zs.getD j 0 < 256 := fun j => by
        by_cases hj : j < zs.length
        · have h7 := hwz (zs.getD j 0) (by rw [List.getD_eq_getElem?_getD, List.getElem?_eq_getElem hj]; exact List.getElem_mem hj)
          have h8 := bounds_u8 h7
          omega
        · rw [List.getD_eq_getElem?_getD, List.getElem?_eq_none (by omega)]
          simp
      refine ⟨fun j => (zs.getD j 0).toNat, fun j hj => ?_, fun j => by have := hb8 j; show (zs.getD j 0).toNat < 256; omega, by omega⟩
      obtain ⟨xb, xo, xs⟩ := x
      obtain rfl : xs = none := by
        have h9 := World.cell?_spot (hcell 0 (by omega))
        simpa [Addr.add] using h9
      refine ⟨xb, xo, rfl, ?_⟩
      have h7 := hcell j (by omega)
      have h8 : (⟨xb, xo, none⟩ : Addr).add j = ⟨xb, xo + j, none⟩ := by unfold Addr.add; split <;> simp_all
      rw [h8] at h7
      rw [h7]
      have := hb8 j
      show _ = some (Value.int IntKind.u8 (((zs.getD j 0).toNat : Nat) : Int))
      rw [Int.toNat_of_nonneg this.1]
  obtain ⟨a1, len1, cap1, rfl⟩ := okWide_slice Ybaf.underlying23 (hval 1 23 v1 rfl rfl)
  have k1 := h1
  have lt1 : ∀ x ∈ p1, x.block < W.heap.size := by obtain ⟨m, hm⟩ := k1; exact DataW.trod_lt m _ _ _ hm
  obtain ⟨wv, hw, hwv, hl1⟩ : ∃ wv : Nat → Int, (∀ j, j < len1 → ∃ b o, a1 = some ⟨b, o, none⟩ ∧ W.cell? ⟨b, o + j, none⟩ = some (.int .i64 (wv j))) ∧ (∀ j, wrap64 (wv j) = wv j) ∧ len1 ≤ 9223372036854775807 := by
    obtain ⟨fuel, hf⟩ := h1
    rcases open_ints Ybaf.underlying23 Ybaf.underlying3 (by kernel_rfl) hf with ⟨hcs, _⟩ | ⟨x, l, c, zs, hcs, _, hl, hm, hz, _, hcell, hwz⟩
    · simp [Value.cells] at hcs
      obtain ⟨rfl, rfl, rfl⟩ := hcs
      exact ⟨fun _ => 0, fun j hj => by omega, fun _ => by show wrap64 0 = 0; unfold wrap64; omega, by omega⟩
    · simp [Value.cells] at hcs
      obtain ⟨rfl, rfl, rfl⟩ := hcs
      have hzc : zs.length = cap1 := by simpa using hz
      have hm' : cap1 ≤ 9223372036854775807 := by simpa [maxLen] using hm
      refine ⟨fun j => zs.getD j 0, fun j hj => ?_, fun j => ?_, by omega⟩
      · obtain ⟨xb, xo, xs⟩ := x
        obtain rfl : xs = none := by
          have h9 := World.cell?_spot (hcell 0 (by omega))
          simpa [Addr.add] using h9
        refine ⟨xb, xo, rfl, ?_⟩
        have h7 := hcell j (by omega)
        have h8 : (⟨xb, xo, none⟩ : Addr).add j = ⟨xb, xo + j, none⟩ := by unfold Addr.add; split <;> simp_all
        rw [h8] at h7
        exact h7
      · show wrap64 (zs.getD j 0) = zs.getD j 0
        by_cases hj : j < zs.length
        · have h7 := hwz (zs.getD j 0) (by rw [List.getD_eq_getElem?_getD, List.getElem?_eq_getElem hj]; exact List.getElem_mem hj)
          have h8 := bounds_i64 h7
          unfold wrap64
          omega
        · rw [List.getD_eq_getElem?_getD, List.getElem?_eq_none (by omega)]
          unfold wrap64
          simp
  clear hA0 hval0
  refine (law_any W a0 a1 len0 cap0 len1 cap1 pv wv hp hpv hw hwv hl0 hl1).mono fun e W' ⟨he, bel⟩ => ?_
  subst he
  exact ⟨_, rfl, _, _, _, [], _, [], hW', trodAll_mk1 (shut_bool Ybaf.underlying4 _), trodAll_mk2 (Below.trod Ybaf.laidOut (by kernel_rfl) (of_decide_eq_true (by kernel_rfl)) k0 bel lt0) (Below.trod Ybaf.laidOut (by kernel_rfl) (of_decide_eq_true (by kernel_rfl)) k1 bel lt1), rfl, bel.frame _, fun h => by cases h⟩

theorem told_holds : Claim7.holds Ybaf.pinned (.plain (OpenSpec.ofChange Rows.lawS0122BModelSpec)) (Claim7.toldRow Rows.lawS0122BModelRow (true, "b880c337030b6c2f34661ec6e8870882f0a35e6e824d58b0ad825736b6772863") false false) :=
  Claim7.holds_of_told_any 3 Ybaf.f3 "fmt.errorf" [] [] _ _ _ (by kernel_rfl) rfl rfl rfl Ybaf.laidOut (by kernel_rfl) rfl ⟨rfl, rfl, rfl, rfl, rfl, rfl, rfl⟩ rfl rfl (by kernel_rfl) (by kernel_rfl) Ybaf.func3 (by kernel_rfl)
    (of_decide_eq_true (by kernel_rfl)) (by unfold Func.isWrapper; first | (rw [if_pos (by decide +kernel)]; kernel_rfl) | (rw [if_neg (by decide +kernel)]; exact ⟨rfl, rfl⟩)) Ybaf.stops.symm rfl Ybaf.stopKnobs.symm (by kernel_rfl)
    (by kernel_rfl) (by kernel_rfl) (by kernel_rfl) (by kernel_rfl) (by kernel_rfl) (by kernel_rfl) (by kernel_rfl) (by kernel_rfl) (by kernel_rfl) rfl (by kernel_rfl) rfl rfl
    rfl rfl
    rfl (by kernel_rfl) (by kernel_rfl) (by kernel_rfl) (by decide) (by kernel_rfl)
    (OpenClaim.moreEntering_of (by kernel_rfl) (by kernel_rfl) (by kernel_rfl) (by kernel_rfl) (by kernel_rfl) (by kernel_rfl) (by kernel_rfl) (by kernel_rfl) (by kernel_rfl) (by kernel_rfl))
    ⟨_, WideRow.started_initial, Ybaf.quiet _⟩
    (fun os started _ H enc _ => law_lifted os started H enc)

/-- ████ THE STATEMENT ████ -/
theorem lawS0122BModelTold.proved : Rows.LawS0122BModelToldSaid := told_holds
end Go.Proofs.YbulkbmsFmt
