import Derived.Test.YbulkbpkCPick
import Derived.ProofKit
import Derived.OpenShut
import Derived.ChangeOld
import Derived.Below
import Derived.Deep.Slices
namespace Go.Proofs.Ybulkbpk
open Go.ChangeShapes Go.WideShapes Go.ChangeAt Go.RowKit Go.Deep

theorem cells50 : Yba.prog.cellsOf 50 = 8 := by kernel_rfl
theorem cells5 : Yba.prog.cellsOf 5 = 1 := by kernel_rfl
theorem cells4 : Yba.prog.cellsOf 4 = 1 := by kernel_rfl
theorem cells48 : Yba.prog.cellsOf 48 = 1 := by kernel_rfl
theorem some_of {α : Type} {o : Option α} {i : Nat} {l : List α} (h : o = l[i]?) (hi : i < l.length) : ∃ x, o = some x := ⟨l[i], by rw [h, List.getElem?_eq_getElem hi]⟩
theorem eight {cs : List Value} (h : cs.length = 8) : ∃ v0 v1 v2 v3 v4 v5 v6 v7, cs = [v0, v1, v2, v3, v4, v5, v6, v7] := by
  obtain _ | ⟨v0, cs⟩ := cs; · simp at h
  obtain _ | ⟨v1, cs⟩ := cs; · simp at h
  obtain _ | ⟨v2, cs⟩ := cs; · simp at h
  obtain _ | ⟨v3, cs⟩ := cs; · simp at h
  obtain _ | ⟨v4, cs⟩ := cs; · simp at h
  obtain _ | ⟨v5, cs⟩ := cs; · simp at h
  obtain _ | ⟨v6, cs⟩ := cs; · simp at h
  obtain _ | ⟨v7, cs⟩ := cs; · simp at h
  obtain _ | ⟨v8, cs⟩ := cs
  · exact ⟨_, _, _, _, _, _, _, _, rfl⟩
  · simp at h
/-- One entry that came in, read. -/
theorem open_ent {H : Type} {enc : TypeId × Value → H} {W : World} {base : Nat} {spare : Nat → Bool} {held : Bool} {fuel : Nat} {cs : List Value} {y : DataW H × List MemPlace} (hlen : cs.length = 8) (h : DataW.trod enc Yba.prog W base spare held fuel 50 cs = some y) :
    ∃ e : Ent, e.Ok ∧ cs = [.int .u8 e.dv, .int .u8 e.io, .int .u8 e.sz, .int .u8 e.mt, .int .u8 e.sm, .bool e.gn, .bool e.us, .int .i8 e.pl] := by
  obtain ⟨xs, n, _, _, _, hxl, hf⟩ := DataW.trod_struct Yba.underlying50 h
  have hxl' : xs.length = 8 := hxl
  obtain ⟨v0, v1, v2, v3, v4, v5, v6, v7, rfl⟩ := eight hlen
  have g0 : DataW.trod enc Yba.prog W base spare held n 5 (([v0, v1, v2, v3, v4, v5, v6, v7].drop 0).take (Yba.prog.cellsOf 5)) = xs[0]? := hf 0 _ rfl
  rw [cells5] at g0
  have g1 : DataW.trod enc Yba.prog W base spare held n 5 (([v0, v1, v2, v3, v4, v5, v6, v7].drop 1).take (Yba.prog.cellsOf 5)) = xs[1]? := hf 1 _ rfl
  rw [cells5] at g1
  have g2 : DataW.trod enc Yba.prog W base spare held n 5 (([v0, v1, v2, v3, v4, v5, v6, v7].drop 2).take (Yba.prog.cellsOf 5)) = xs[2]? := hf 2 _ rfl
  rw [cells5] at g2
  have g3 : DataW.trod enc Yba.prog W base spare held n 5 (([v0, v1, v2, v3, v4, v5, v6, v7].drop 3).take (Yba.prog.cellsOf 5)) = xs[3]? := hf 3 _ rfl
  rw [cells5] at g3
  have g4 : DataW.trod enc Yba.prog W base spare held n 5 (([v0, v1, v2, v3, v4, v5, v6, v7].drop 4).take (Yba.prog.cellsOf 5)) = xs[4]? := hf 4 _ rfl
  rw [cells5] at g4
  have g5 : DataW.trod enc Yba.prog W base spare held n 4 (([v0, v1, v2, v3, v4, v5, v6, v7].drop 5).take (Yba.prog.cellsOf 4)) = xs[5]? := hf 5 _ rfl
  rw [cells4] at g5
  have g6 : DataW.trod enc Yba.prog W base spare held n 4 (([v0, v1, v2, v3, v4, v5, v6, v7].drop 6).take (Yba.prog.cellsOf 4)) = xs[6]? := hf 6 _ rfl
  rw [cells4] at g6
  have g7 : DataW.trod enc Yba.prog W base spare held n 48 (([v0, v1, v2, v3, v4, v5, v6, v7].drop 7).take (Yba.prog.cellsOf 48)) = xs[7]? := hf 7 _ rfl
  rw [cells48] at g7
  obtain ⟨y0, e0⟩ := some_of g0 (by omega)
  obtain ⟨y1, e1⟩ := some_of g1 (by omega)
  obtain ⟨y2, e2⟩ := some_of g2 (by omega)
  obtain ⟨y3, e3⟩ := some_of g3 (by omega)
  obtain ⟨y4, e4⟩ := some_of g4 (by omega)
  obtain ⟨y5, e5⟩ := some_of g5 (by omega)
  obtain ⟨y6, e6⟩ := some_of g6 (by omega)
  obtain ⟨y7, e7⟩ := some_of g7 (by omega)
  obtain ⟨n0, r0, _, w0⟩ := DataW.trod_int Yba.underlying5 e0
  obtain ⟨n1, r1, _, w1⟩ := DataW.trod_int Yba.underlying5 e1
  obtain ⟨n2, r2, _, w2⟩ := DataW.trod_int Yba.underlying5 e2
  obtain ⟨n3, r3, _, w3⟩ := DataW.trod_int Yba.underlying5 e3
  obtain ⟨n4, r4, _, w4⟩ := DataW.trod_int Yba.underlying5 e4
  obtain ⟨b5, r5, _⟩ := DataW.trod_bool Yba.underlying4 e5
  obtain ⟨b6, r6, _⟩ := DataW.trod_bool Yba.underlying4 e6
  obtain ⟨n7, r7, _, w7⟩ := DataW.trod_int Yba.underlying48 e7
  injection r0 with r0 _; injection r1 with r1 _; injection r2 with r2 _; injection r3 with r3 _; injection r4 with r4 _; injection r5 with r5 _; injection r6 with r6 _; injection r7 with r7 _
  subst r0; subst r1; subst r2; subst r3; subst r4; subst r5; subst r6; subst r7
  exact ⟨⟨n0, n1, n2, n3, n4, b5, b6, n7⟩, ⟨bounds_u8 w0, bounds_u8 w1, bounds_u8 w2, bounds_u8 w3, bounds_u8 w4, bounds_i8 w7⟩, rfl⟩
def ent0 : Ent := ⟨0, 0, 0, 0, 0, false, false, 0⟩
theorem ent0_ok : ent0.Ok := ⟨by decide, by decide, by decide, by decide, by decide, by decide⟩
/-- What the walk is told of the slice of entries. -/
theorem open_ents {H : Type} {enc : TypeId × Value → H} {W : World} {base : Nat} {spare : Nat → Bool} {held : Bool} {fuel : Nat} {a : Option Addr} {len cap : Nat} {y : DataW H × List MemPlace} (h : DataW.trod enc Yba.prog W base spare held fuel 39 [.slice a len cap] = some y) :
    ∃ E, SrcE W a len E ∧ ∀ i, (E i).Ok := by
  rcases open_slice Yba.underlying39 h with ⟨hcs, _⟩ | ⟨x, l, c, m, n, D, Pl, hcs, hb, hl, hm, hmm, _, hx⟩
  · simp at hcs
    obtain ⟨rfl, rfl, rfl⟩ := hcs
    exact ⟨fun _ => ent0, fun i hi => by omega, fun _ => ent0_ok⟩
  · simp at hcs
    obtain ⟨rfl, rfl, rfl⟩ := hcs
    have hlm : len ≤ m := by rw [hmm]; split <;> omega
    have each : ∀ i, i < len → ∃ e : Ent, e.Ok ∧ ∀ j v, [Value.int .u8 e.dv, .int .u8 e.io, .int .u8 e.sz, .int .u8 e.mt, .int .u8 e.sm, .bool e.gn, .bool e.us, .int .i8 e.pl][j]? = some v → W.cell? ((x.add (i * 8)).add j) = some v := by
      intro i hi
      obtain ⟨cs', h1, h2⟩ := hx i (by omega)
      rw [cells50] at h1
      obtain ⟨_, hlen, hcell⟩ := World.cells?_some h1
      obtain ⟨e, he, rfl⟩ := open_ent hlen h2
      exact ⟨e, he, fun j v hv => (hcell j (List.getElem?_eq_some_iff.1 hv).1).trans hv⟩
    refine ⟨fun i => if hi : i < len then Classical.choose (each i hi) else ent0, fun i hi => ?_, fun i => ?_⟩
    · obtain ⟨b, o, sp⟩ := x
      have hsp : sp = none := by
        have h0 := (Classical.choose_spec (each 0 (by omega))).2 0 _ rfl
        have := World.cell?_spot h0
        simpa [Addr.add] using this
      subst hsp
      simp only [dif_pos hi]
      have hs := (Classical.choose_spec (each i hi)).2
      generalize Classical.choose (each i hi) = e at hs ⊢
      simp only [Addr.add_mid] at hs
      have c0 := hs 0 _ rfl
      exact ⟨b, o, rfl, ⟨c0, hs 1 _ rfl, hs 2 _ rfl, hs 3 _ rfl, hs 4 _ rfl, hs 5 _ rfl, hs 6 _ rfl, hs 7 _ rfl⟩, World.block_lt_of_cell? W _ c0⟩
    · by_cases hi : i < len
      · simp only [dif_pos hi]; exact (Classical.choose_spec (each i hi)).1
      · simp only [dif_neg hi]; exact ent0_ok
end Go.Proofs.Ybulkbpk
