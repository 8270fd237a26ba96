import Derived.Test.YbulkbmsFmtFrame
import Derived.OwnWalk
import Derived.Maps.AppendAt
import Derived.Deep.QuietTactic
import Derived.Deep.DeepCutAuto
namespace Go.Proofs.YbulkbmsFmt
open Go.RowKit

def ints (L : List Nat) : List Value := L.map fun (v : Nat) => Value.int .i64 (v : Int)
theorem ints_snoc (L : List Nat) (u : Nat) : ints (L ++ [u]) = ints L ++ [.int .i64 (u : Int)] := by simp [ints]
theorem ints_length (L : List Nat) : (ints L).length = L.length := by simp [ints]
theorem Ybaf.info3 : (Ybaf.prog.info? 3).map (fun i => (i.zero, i.size, i.bytes)) = some (some (.int .i64 0), 1, 8) := by kernel_rfl

/-- A slice of the call's own that is not nil. -/
structure Own (w : World) (base ρ c : Nat) (L : List Nat) : Prop where
  own : w.ownsRow base 3 1 (.slice (some ⟨ρ, 0, none⟩) L.length c) L.length (ints L)
theorem Own.cell {w : World} {base ρ c : Nat} {L : List Nat} (h : Own w base ρ c L) {j u : Nat} (hj : L[j]? = some u) : w.cell? ⟨ρ, j, none⟩ = some (.int .i64 (u : Int)) := by
  have := h.own.cells (g := ρ) rfl j (.int .i64 (u : Int)) (by simp [ints, hj])
  have hadd : (⟨ρ, 0, none⟩ : Addr).add j = ⟨ρ, j, none⟩ := by unfold Addr.add; split <;> simp_all
  rw [hadd] at this
  exact this
theorem own_of {w : World} {base : Nat} {v : Value} {L : List Nat} (h : w.ownsRow base 3 1 v L.length (ints L)) (hne : v ≠ .slice none 0 0) : ∃ ρ c, v = .slice (some ⟨ρ, 0, none⟩) L.length c ∧ Own w base ρ c L := by
  rcases h.2 with ⟨e, _⟩ | ⟨g, cap, cur, e, _⟩
  · exact absurd e hne
  · subst e; exact ⟨g, cap, rfl, ⟨h⟩⟩

theorem grown_set (w : World) (a : Addr) (v : Value) : w.grownBy (w.setCell a v) (some a.block) := by
  have hb := (Below.refl 0 w).setCell (p := a) (Nat.zero_le _) v
  exact ⟨hb.os, hb.tape, hb.output, hb.size, fun k _ hk => Below.heap_setCell w a v k (fun e => hk (by rw [e]))⟩
theorem one_at (w : World) (x : Int) (t : TypeId) : ∀ j u, [Value.int .i64 x][j]? = some u → (w.alloc (.cells #[.int .i64 x] t)).cell? ((⟨w.heap.size, 0, none⟩ : Addr).add j) = some u := by
  intro j u hj
  match j, hj with
  | 0, hj => simp at hj; subst hj; simp [Addr.add]
/-- Where the search stands, in memory. -/
structure Cs (w0 w wr : World) (g n S base : Nat) (row0 : Option Nat) (adj : Nat → Nat → Bool) (nb : Nat → List Nat) (bl : Nat → Bool) (s : Nat) (R0 : List Nat) (ρ c t q : Nat) (f : Nat → Bool) (L : List Nat) : Prop where
  srch : Gr.Search adj nb n bl s f L t q
  row : Own wr base ρ c (R0 ++ L)
  marks : Bools wr S n f
  fr : Fr w wr (fun b => b = S ∨ some b = row0)
  below : Below w0.heap.size w0 wr
  at' : some ρ = row0 ∨ w.heap.size ≤ ρ
  neS : ρ ≠ S

/-- One append to the row, the marks as they were. -/
theorem own_next {w w1 : World} {base : Nat} {v v1 : Value} {L : List Nat} {u : Nat} (h : w1.ownsRow base 3 1 v1 (L.length + 1) (ints L ++ [.int .i64 (u : Int)])) (hn : v1 = .slice none 0 0 ↔ v = .slice none 0 0 ∧ 1 = 0) (hat : v1.ownBlock = v.ownBlock ∨ v1.ownBlock = some w.heap.size) :
    ∃ ρ c M, v1 = .slice (some ⟨ρ, 0, none⟩) M c ∧ Hid (M = (L ++ [u]).length) ∧ Own w1 base ρ c (L ++ [u]) ∧ (some ρ = v.ownBlock ∨ ρ = w.heap.size) := by
  have h' : w1.ownsRow base 3 1 v1 (L ++ [u]).length (ints (L ++ [u])) := by rw [ints_snoc]; simpa using h
  have hne : v1 ≠ .slice none 0 0 := fun e => by have := (hn.1 e).2; omega
  obtain ⟨ρ, c, rfl, ho⟩ := own_of h' hne
  refine ⟨ρ, c, _, rfl, rfl, ho, ?_⟩
  rcases hat with e | e
  · exact Or.inl e
  · right
    simp only [Value.ownBlock, Option.some.injEq] at e
    exact e
theorem cs_start {w0 w w1 : World} {g n S base : Nat} {v0 : Value} {adj : Nat → Nat → Bool} {nb : Nat → List Nat} {bl : Nat → Bool} {s : Nat} {R0 : List Nat} {ρ c : Nat} {o : Obj} (hs : s < n) (hB : Below w0.heap.size w0 w) (hS : Bools w S n bl) (hSb : w0.heap.size ≤ S) (hb0 : w0.heap.size ≤ base) (hown : w.ownsRow base 3 1 v0 R0.length (ints R0)) (hne : v0.ownBlock ≠ some S)
    (hgr : ((w.setCell ⟨S, s, none⟩ (.bool true)).alloc o).grownBy w1 v0.ownBlock) (hrow : Own w1 base ρ c (R0 ++ [s])) (hat : some ρ = v0.ownBlock ∨ ρ = ((w.setCell ⟨S, s, none⟩ (.bool true)).alloc o).heap.size) :
    Cs w0 w w1 g n S base v0.ownBlock adj nb bl s R0 ρ c 0 0 (Gr.mark bl s) [s] := by
  have hSl : S < w.heap.size := World.block_lt_of_cell? w _ (hS.cell s hs)
  have fr : Fr w w1 (fun b => b = S ∨ some b = v0.ownBlock) :=
    ((Fr.setCell w ⟨S, s, none⟩ (.bool true) _ (Or.inl rfl)).trans (Fr.alloc _ o (fun b => b = S ∨ some b = v0.ownBlock)) (fun _ _ h => h)).trans (Fr.grown hgr (fun b => b = S ∨ some b = v0.ownBlock) (fun b e => Or.inr e.symm)) (fun _ _ h => h)
  have hex : ∀ b, (b = S ∨ some b = v0.ownBlock) → w0.heap.size ≤ b := fun b hb => by
    rcases hb with e | e
    · subst e; exact hSb
    · have := (hown.lt b e.symm).1; omega
  refine ⟨Gr.Search.begin hs, hrow, ?_, fr, hB.trans (fr.below hB.size hex), ?_, ?_⟩
  · have h1 : Bools (w.setCell ⟨S, s, none⟩ (.bool true)) S n (Gr.mark bl s) := hS.set hs true
    exact (h1.fr (Fr.alloc _ o (fun _ => False)) (fun h => h)).fr (Fr.grown hgr (fun b => some b = v0.ownBlock) (fun b e => e.symm)) (fun e => hne e.symm)
  · rcases hat with e | e
    · exact Or.inl e
    · right; rw [e]; simp
  · rintro rfl
    rcases hat with e | e
    · exact hne e.symm
    · simp at e; omega

theorem Cs.drewN {w0 w wr : World} {g n S base : Nat} {row0 : Option Nat} {adj : Nat → Nat → Bool} {nb : Nat → List Nat} {bl : Nat → Bool} {s : Nat} {R0 : List Nat} {ρ c t q : Nat} {f : Nat → Bool} {L : List Nat} (h : Cs w0 w wr g n S base row0 adj nb bl s R0 ρ c t q f L) (k : Nat) :
    Cs w0 w (wr.drewN k) g n S base row0 adj nb bl s R0 ρ c t q f L :=
  ⟨h.srch, ⟨h.row.own⟩, h.marks.block rfl, h.fr.trans (Fr.drewN wr k (fun b => b = S ∨ some b = row0)) (fun _ _ e => e), ⟨h.below.os, h.below.tape, h.below.output, h.below.size, h.below.block⟩, h.at', h.neS⟩
theorem Cs.skip {w0 w wr : World} {g n S base : Nat} {row0 : Option Nat} {adj : Nat → Nat → Bool} {nb : Nat → List Nat} {bl : Nat → Bool} {s : Nat} {R0 : List Nat} {ρ c t q v u : Nat} {f : Nat → Bool} {L : List Nat} (h : Cs w0 w wr g n S base row0 adj nb bl s R0 ρ c t q f L) (hv : L[t]? = some v) (hu : (nb v)[q]? = some u) (hf : f u = true) :
    Cs w0 w wr g n S base row0 adj nb bl s R0 ρ c t (q + 1) f L := ⟨h.srch.skip hv hu hf, h.row, h.marks, h.fr, h.below, h.at', h.neS⟩
theorem Cs.next {w0 w wr : World} {g n S base : Nat} {row0 : Option Nat} {adj : Nat → Nat → Bool} {nb : Nat → List Nat} {bl : Nat → Bool} {s : Nat} {R0 : List Nat} {ρ c t q v : Nat} {f : Nat → Bool} {L : List Nat} (h : Cs w0 w wr g n S base row0 adj nb bl s R0 ρ c t q f L) (hv : L[t]? = some v) (hq : (nb v).length ≤ q) :
    Cs w0 w wr g n S base row0 adj nb bl s R0 ρ c (t + 1) 0 f L := ⟨h.srch.next hv hq, h.row, h.marks, h.fr, h.below, h.at', h.neS⟩
theorem Cs.take {w0 w wr w1 : World} {g n S base : Nat} {row0 : Option Nat} {adj : Nat → Nat → Bool} {nb : Nat → List Nat} {bl : Nat → Bool} {s : Nat} {R0 : List Nat} {ρ c t q v u ρ1 c1 : Nat} {f : Nat → Bool} {L : List Nat} {o : Obj} (N : Gr.Nbs adj nb n) (h : Cs w0 w wr g n S base row0 adj nb bl s R0 ρ c t q f L) (hv : L[t]? = some v) (hu : (nb v)[q]? = some u) (hun : u < n) (hf : f u = false) (hSb : w0.heap.size ≤ S) (hb0 : w0.heap.size ≤ base)
    (hrow0 : ∀ b, some b = row0 → w0.heap.size ≤ b) (hgr : ((wr.setCell ⟨S, u, none⟩ (.bool true)).alloc o).grownBy w1 (some ρ)) (hrow : Own w1 base ρ1 c1 (R0 ++ (L ++ [u]))) (hat : some ρ1 = some ρ ∨ ρ1 = ((wr.setCell ⟨S, u, none⟩ (.bool true)).alloc o).heap.size) :
    Cs w0 w w1 g n S base row0 adj nb bl s R0 ρ1 c1 t (q + 1) (Gr.mark f u) (L ++ [u]) := by
  have hSl : S < wr.heap.size := World.block_lt_of_cell? wr _ (h.marks.cell u hun)
  have f1 : Fr wr w1 (fun b => b = S ∨ b = ρ) :=
    ((Fr.setCell wr ⟨S, u, none⟩ (.bool true) (fun b => b = S ∨ b = ρ) (Or.inl rfl)).trans (Fr.alloc _ o (fun b => b = S ∨ b = ρ)) (fun _ _ h => h)).trans (Fr.grown hgr (fun b => b = S ∨ b = ρ) (fun b e => Or.inr (by injection e with e; exact e.symm))) (fun _ _ h => h)
  have fr : Fr w w1 (fun b => b = S ∨ some b = row0) := h.fr.trans f1 fun b hb e => by
    rcases e with e | e
    · exact Or.inl e
    · rcases h.at' with k | k
      · right; rw [e]; exact k
      · omega
  have hex : ∀ b, (b = S ∨ some b = row0) → w0.heap.size ≤ b := fun b hb => by
    rcases hb with e | e
    · subst e; exact hSb
    · exact hrow0 b e
  have hbρ : w0.heap.size ≤ ρ := by have := (h.row.own.lt ρ rfl).1; omega
  refine ⟨h.srch.take N hv hu hf, hrow, ?_, fr, h.below.trans (f1.below h.below.size (fun b hb => by rcases hb with e | e <;> subst e <;> assumption)), ?_, ?_⟩
  · have h1 : Bools (wr.setCell ⟨S, u, none⟩ (.bool true)) S n (Gr.mark f u) := h.marks.set hun true
    exact (h1.fr (Fr.alloc _ o (fun _ => False)) (fun h => h)).fr (Fr.grown hgr (fun b => b = ρ) (fun b e => by injection e with e; exact e.symm)) (fun e => h.neS e.symm)
  · rcases hat with e | e
    · injection e with e; rw [e]; exact h.at'
    · right
      rw [e]
      have := h.fr.size
      simp; omega
  · rintro rfl
    rcases hat with e | e
    · injection e with e; exact h.neS e.symm
    · simp at e; omega

set_option maxRecDepth 100000 in
set_option maxHeartbeats 4000000 in
theorem component_any (w0 : World) (g n : Nat) (adj : Nat → Nat → Bool) (nb : Nat → List Nat) (hG : GraphAt w0 g n nb) (N : Gr.Nbs adj nb n) (S cS : Nat) (bl : Nat → Bool) (s : Nat) (hs : s < n) (v0 : Value) (R0 : List Nat) (base : Nat) (w : World) (hn : n ≤ 256) (hR : R0.length ≤ 256)
    (hB : Below w0.heap.size w0 w) (hS : Bools w S n bl) (hSb : w0.heap.size ≤ S) (hown : w.ownsRow base 3 1 v0 R0.length (ints R0)) (hb0 : w0.heap.size ≤ base) (hb1 : base ≤ w.heap.size) (hne : v0.ownBlock ≠ some S) :
    Calls Ybaf.prog 11 #[.pointer (some ⟨g, 0, none⟩), .int .i64 s, .slice (some ⟨S, 0, none⟩) n cS, v0] w fun e w' => ∃ ρ c t f L, e = .returned (.slice (some ⟨ρ, 0, none⟩) (R0 ++ L).length c) ∧ L.length ≤ t ∧ Cs w0 w w' g n S base v0.ownBlock adj nb bl s R0 ρ c t 0 f L := by
  obtain ⟨i0, hi, hz0, hz1, hz2⟩ := info_parts Ybaf.info3
  have HG := hide hG
  have HS := hide hS
  have HOwn := hide hown
  have HB := hide hB
  have c1 := hS.cell s hs
  have f1 := hS.free s hs
  have hsz : (s : Int) < (n : Int) := by omega
  clear hG hS hown hB
  go_enter Ybaf.func11, Ybaf.ntmps11
  have H1 : ∀ o, ((w.setCell ⟨S, s, none⟩ (.bool true)).alloc o).ownsRow base 3 1 v0 R0.length (ints R0) := fun o => (HOwn.out.kept (grown_set w ⟨S, s, none⟩ (.bool true)) (Or.inr hne)).alloc o
  have hsz2 : (w.setCell ⟨S, s, none⟩ (.bool true)).heap.size = w.heap.size := by simp
  go_upto_region 3 with (first | (at_builtin; refine wpList_append_own_at _ rfl (.tmp 15) (.tmp 17) 23 rfl base 3 i0 (.int .i64 0) 1 8 Ybaf.underlying23 hi hz0 hz1 hz2 rfl (by decide) v0 R0.length (ints R0) rfl (H1 _) ⟨w.heap.size, 0, none⟩ 1 1 [.int .i64 (s : Int)] rfl rfl (by have := one_at (w.setCell ⟨S, s, none⟩ (.bool true)) s 3; rw [hsz2] at this; exact this) (by intro u hu; simp at hu; subst hu; rfl) (by unfold maxLen; omega) (by omega) (by simp; omega) ?_; intro v1 w1 hown1 hgr1 hnil1 hat1) | fail)
  obtain ⟨ρ, c, M0, rfl, HM0, hrow, hat⟩ := own_next hown1 hnil1 hat1
  have hM0 : 1 ≤ M0 ∧ M0 ≤ 300 := by have := HM0.out; simp at this; omega
  have HC := hide (cs_start (g := g) (adj := adj) (nb := nb) hs HB.out HS.out hSb hb0 HOwn.out hne hgr1 hrow hat)
  clear hown1 hgr1 hnil1 hat1 hrow hat H1 hsz2 c1 f1
  go_wp2_with fail
  go_loopg [3, 9] (n + 1) (fun gk s3 s9 wr => ∃ (ρ c t I M : Nat) (f : Nat → Bool) (L : List Nat), t ≤ L.length ∧ gk = n + 1 - t ∧ s3 = .slice (some ⟨ρ, 0, none⟩) M c ∧ s9 = .int .i64 (I : Int) ∧ Hid (I = R0.length + t ∧ M = (R0 ++ L).length) ∧ Hid (Cs w0 w wr g n S base v0.ownBlock adj nb bl s R0 ρ c t 0 f L))
  case atStart =>
    exact ⟨ρ, c, 0, M0 - 1, M0, _, [s], by simp, rfl, rfl, by go_num, ⟨by have := HM0.out; simp at this; omega, HM0.out⟩, HC.out⟩
  case round =>
    obtain ⟨ρ, c, t, I, M, f, L, ht, rfl, rfl, rfl, HIM, HC⟩ := hrel
    have hLn := HC.out.srch.short
    have hIM : I = R0.length + t ∧ M = R0.length + L.length := ⟨HIM.out.1, by rw [HIM.out.2]; simp⟩
    have HIM2 := hide hIM
    by_cases hlt : t < L.length
    · have hl1 : (I : Int) < (M : Int) := by omega
      have hM : M ≤ 512 := by omega
      clear hIM
      obtain ⟨v, hv⟩ : ∃ v, L[t]? = some v := ⟨L[t], List.getElem?_eq_getElem hlt⟩
      have hvn := HC.out.srch.lt v (List.mem_of_getElem? hv)
      have hcv : wr.cell? ⟨ρ, I, none⟩ = some (.int .i64 (v : Int)) := HC.out.row.cell (by rw [HIM.out.1, List.getElem?_append_right (by omega)]; simpa using hv)
      obtain ⟨NB, cN, hN2', hNv⟩ := HG.out.neighs
      obtain ⟨aV, cV, hrv', hrows⟩ := hNv v hvn
      have hN2 := cell_later HC.out.below hN2'
      have hrv := cell_later HC.out.below hrv'
      clear hN2' hrv'
      have hvz : (v : Int) < (n : Int) := by omega
      have HV := hide hv
      have HRw := hide hrows
      clear hNv hv hrows
      go_upto_region 6 with fail
      go_quiet (fail)
      go_wp2_with fail
      have HCd := hide (HC.out.drewN nq)
      clear hcv hN2 hrv
      generalize wr.drewN nq = X at HCd ⊢
      go_loopg [3, 39] (nb v).length (fun gk s3 s39 wx => ∃ (ρ c q M : Nat) (f : Nat → Bool) (L : List Nat), q ≤ (nb v).length ∧ gk = (nb v).length - q ∧ s3 = .slice (some ⟨ρ, 0, none⟩) M c ∧ s39 = .int .i64 (q : Int) ∧ Hid (M = (R0 ++ L).length ∧ L[t]? = some v) ∧ Hid (Cs w0 w wx g n S base v0.ownBlock adj nb bl s R0 ρ c t q f L))
      case atStart => exact ⟨ρ, c, 0, M, f, L, Nat.zero_le _, rfl, rfl, rfl, ⟨HIM.out.2, HV.out⟩, HCd.out⟩
      case round =>
        have HI := hide HIM.out.1
        clear HC HCd HIM HIM2 hLn
        obtain ⟨ρ, c, q, M, f, L, hq, rfl, rfl, rfl, HML, HC⟩ := hrel
        have hLn := HC.out.srch.short
        have hnbl := N.short hvn
        have hM2 : M ≤ 512 := by have := HML.out.1; simp at this; omega
        by_cases hql : q < (nb v).length
        · obtain ⟨u, hu⟩ : ∃ u, (nb v)[q]? = some u := ⟨(nb v)[q], List.getElem?_eq_getElem hql⟩
          have hun := ((N.iff v u hvn).1 (List.mem_of_getElem? hu)).1
          obtain ⟨bV, rfl, hcu'⟩ := HRw.out q u hu
          have hcu := cell_later HC.out.below hcu'
          have hqz : (q : Int) < ((nb v).length : Int) := by omega
          have huz : (u : Int) < (n : Int) := by omega
          have hsu := HC.out.marks.cell u hun
          have hfu := HC.out.marks.free u hun
          have HU := hide hu
          clear hcu' hu
          cases hf : f u
          · rw [hf] at hsu
            have HF := hide hf
            have H1 : ∀ o, ((wr.setCell ⟨S, u, none⟩ (.bool true)).alloc o).ownsRow base 3 1 (.slice (some ⟨ρ, 0, none⟩) M c) M (ints (R0 ++ L)) := fun o => by
              have h0 := HC.out.row.own
              rw [← HML.out.1] at h0
              exact (h0.kept (grown_set wr ⟨S, u, none⟩ (.bool true)) (Or.inr (by intro e; injection e with e; exact HC.out.neS e))).alloc o
            have hsz2 : (wr.setCell ⟨S, u, none⟩ (.bool true)).heap.size = wr.heap.size := by simp
            have hbw : base ≤ wr.heap.size := by have := HC.out.fr.size; omega
            clear hf
            go_wp2_with (first | (at_builtin; refine wpList_append_own_at _ rfl (.tmp 51) (.tmp 53) 23 rfl base 3 i0 (.int .i64 0) 1 8 Ybaf.underlying23 hi hz0 hz1 hz2 rfl (by decide) (.slice (some ⟨ρ, 0, none⟩) M c) M (ints (R0 ++ L)) rfl (H1 _) ⟨wr.heap.size, 0, none⟩ 1 1 [.int .i64 (u : Int)] rfl rfl (by have := one_at (wr.setCell ⟨S, u, none⟩ (.bool true)) u 3; rw [hsz2] at this; exact this) (by intro u hu; simp at hu; subst hu; rfl) (by unfold maxLen; omega) (by omega) (by simp; omega) ?_; intro v1 w1 hown1 hgr1 hnil1 hat1; rw [HML.out.1] at hown1; obtain ⟨ρ1, c1, M1, rfl, HM1, hrow1, hatp⟩ := own_next hown1 hnil1 hat1) | fail)
            have HT := hide (HC.out.take N HML.out.2 HU.out hun HF.out hSb hb0 (fun b e => by have := (HOwn.out.lt b e.symm).1; omega) hgr1 (by rw [← List.append_assoc]; exact hrow1) hatp)
            go_roundg ((nb v).length - (q + 1))
            case measure => omega
            case rel => exact ⟨ρ1, c1, q + 1, M1, _, L ++ [u], by omega, rfl, rfl, by go_num, ⟨by rw [HM1.out, List.append_assoc], by rw [List.getElem?_append_left (List.getElem?_eq_some_iff.1 HML.out.2).1]; exact HML.out.2⟩, HT.out⟩
          · rw [hf] at hsu
            have HF := hide hf
            clear hf
            go_wp2_with fail
            go_roundg ((nb v).length - (q + 1))
            case measure => omega
            case rel => exact ⟨ρ, c, q + 1, M, f, L, by omega, rfl, rfl, by go_num, HML.out, HC.out.skip HML.out.2 HU.out HF.out⟩
        · obtain rfl : q = (nb v).length := by omega
          have HN := hide (HC.out.next HML.out.2 (Nat.le_refl _))
          go_wp2_with fail
          go_roundg (n + 1 - (t + 1))
          case measure => have := (List.getElem?_eq_some_iff.1 HML.out.2).1; omega
          case rel => exact ⟨ρ, c, t + 1, I + 1, M, f, L, by have := (List.getElem?_eq_some_iff.1 HML.out.2).1; omega, rfl, rfl, by go_num, ⟨by have := HI.out; omega, HML.out.1⟩, HN.out⟩
    · have hl1 : ¬ (I : Int) < (M : Int) := by omega
      clear hIM
      go_wp2_with fail
      go_ret
      exact ⟨ρ, c, t, f, L, by rw [HIM.out.2]; simp, by omega, HC.out⟩
end Go.Proofs.YbulkbmsFmt
