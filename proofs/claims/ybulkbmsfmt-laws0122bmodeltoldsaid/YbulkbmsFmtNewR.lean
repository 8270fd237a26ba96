import Derived.Test.YbulkbmsFmtPw
import Derived.Test.YbulkbmsFmtNewQ
namespace Go.Proofs.YbulkbmsFmt
open Go.RowKit Go.Maps Go.Sort

def srt (L : List Nat) : List Nat := L.mergeSort (fun x y => decide (x ≤ y))
theorem srt_length (L : List Nat) : (srt L).length = L.length := List.length_mergeSort _
theorem srt_perm (L : List Nat) : (srt L).Perm L := List.mergeSort_perm _ _
theorem srt_sorted (L : List Nat) : (srt L).Pairwise (· ≤ ·) := by
  have h := List.pairwise_mergeSort (le := fun (x y : Nat) => decide (x ≤ y)) (fun a b c h1 h2 => by simp at *; omega) (fun a b => by simp; omega) L
  exact pw_of h (fun _ _ h => by simpa using h)
theorem srt_ints (L : List Nat) : ((L.map fun (x : Nat) => (x : Int)).mergeSort fun x y => decide (x ≤ y)).map (Value.int .i64) = ints (srt L) := by
  have h : (srt L).map (fun (x : Nat) => (x : Int)) = (L.map fun (x : Nat) => (x : Int)).mergeSort fun x y => decide (x ≤ y) :=
    List.map_mergeSort (fun a _ b _ => by simp)
  rw [← h]
  simp [ints]

theorem N1.resort {w0 w w' : World} {g M ρ c bn n : Nat} {f : ByteArray → Option Int} {V : Nat → Value} {L : Nat → List Nat} (h : N1 w0 w g M ρ c bn n f V L) {u : Nat} (hu : u < n) {T : List Nat} (hg : w.grownBy w' (V u).ownBlock) (hown : w'.ownsRow (bn + 1) 3 1 (V u) T.length (ints T)) :
    N1 w0 w' g M ρ c bn n f V (fun v => if v = u then T else L v) := by
  have hlo := h.lo
  have hs := h.size
  have hVb : ∀ v, v < n → ∀ b, (V v).ownBlock = some b → bn + 1 ≤ b ∧ b < w.heap.size := fun v hv b hb => (h.own v hv).lt b hb
  have kk : Fr w w' (fun y => some y = (V u).ownBlock) := Fr.grown hg _ (fun y e => e.symm)
  have ne : ∀ y, y ≤ bn → ¬ (some y = (V u).ownBlock) := fun y hy e => by have := hVb u hu y e.symm; omega
  refine ⟨h.lo, by have := kk.size; omega, h.below.trans (kk.below h.below.size (fun y e => by have := hVb u hu y e.symm; omega)), kk.cell h.labs (ne _ (by simp; omega)), kk.cell h.mp (ne _ (by simp; omega)), kk.cell h.nbs (ne _ (by simp; omega)), ?_, fun v hv => kk.cell (h.rows v hv) (ne _ (by simp)), fun v hv => (kk.frozenAt (a := ⟨bn, v, none⟩) hs (ne _ (by simp))).trans (h.free v hv), fun v hv => ?_, h.apart⟩
  · obtain ⟨m, q, hm⟩ := h.map
    exact ⟨m, q, hm.block (kk.block M hm.lt (ne _ (by omega)))⟩
  · by_cases e : v = u
    · subst e
      simpa using hown
    · simp only [if_neg e]
      exact own_fr2 (h.own v hv) kk (fun b hb e2 => h.apart v u hv hu e b hb e2.symm)

/-- slices.Sort on one row. -/
theorem sort_row {w0 w : World} {g M ρ c bn n : Nat} {f : ByteArray → Option Int} {V : Nat → Value} {L : Nat → List Nat} (h : N1 w0 w g M ρ c bn n f V L) {u : Nat} (hu : u < n) (hl : (L u).length ≤ 1000) :
    Calls Ybaf.prog 15 #[V u] w fun e w' => e = .returned (.tuple #[]) ∧ Hid (N1 w0 w' g M ρ c bn n f V (fun v => if v = u then srt (L u) else L v)) := by
  have ho := h.own u hu
  rcases ho.2 with ⟨e, h0⟩ | ⟨gb, cap, cur, e, hb, hg, r1, r2, r3, r4⟩
  · rw [e]
    refine (Ybaf.slices_Sort_int_none none 0 w).mono ?_
    rintro e' w' ⟨rfl, rfl⟩
    refine ⟨rfl, h.cong (fun v _ => ?_)⟩
    by_cases ev : v = u
    · subst ev
      rw [if_pos rfl, List.eq_nil_of_length_eq_zero h0]
      simp [srt]
    · rw [if_neg ev]
  · have hlen : ((L u).map fun (x : Nat) => (x : Int)).length = (L u).length := by simp
    have hH : Holds (Value.int .i64) w gb 0 ((L u).map fun (x : Nat) => (x : Int)).toArray := holds_of_blockI hg (by
      rw [hlen]
      rw [Nat.mul_one] at r4
      rw [r4]
      simp [ints])
    have hgl : gb < w.heap.size := (Array.getElem?_eq_some_iff.1 hg).1
    have h1 := Ybaf.slices_Sort_int gb 0 cap ((L u).map fun (x : Nat) => (x : Int)) w hH hgl (by rw [hlen]; omega)
    rw [hlen] at h1
    rw [e]
    refine h1.mono ?_
    rintro e' w' ⟨rfl, nn, os, rfl⟩
    refine ⟨rfl, h.resort hu ?_ ?_⟩
    · rw [e]; exact grownBy_sortedI _
    · have h2 := ownsRow_sortedI (w := w) (base := bn + 1) (g := gb) (cap := cap) (n := nn) (e := 3) (os := os) (cur := cur) (ss := (L u).map fun (x : Nat) => (x : Int)) (ts := ((L u).map fun (x : Nat) => (x : Int)).mergeSort fun x y => decide (x ≤ y)) (List.length_mergeSort _) hb hg (by rw [hlen]; exact r1) r2 r3
      rw [srt_ints, hlen] at h2
      rw [srt_length, e]
      exact h2
theorem N1.graph {w0 w : World} {g M ρ c bn n : Nat} {f : ByteArray → Option Int} {V : Nat → Value} {L : Nat → List Nat} (h : N1 w0 w g M ρ c bn n f V L) : GraphAt w g n L := by
  refine ⟨⟨_, _, h.labs⟩, bn, n, h.nbs, fun v hv => ?_⟩
  have ho := h.own v hv
  rcases ho.2 with ⟨e, h0⟩ | ⟨gb, cap, cur, e, hb, hg, r1, r2, r3, r4⟩
  · refine ⟨none, 0, by rw [h.rows v hv, e, h0], fun i u hi => ?_⟩
    rw [List.eq_nil_of_length_eq_zero h0] at hi
    simp at hi
  · refine ⟨some ⟨gb, 0, none⟩, cap, by rw [h.rows v hv, e], fun i u hi => ⟨gb, rfl, ?_⟩⟩
    have := ho.cells (g := gb) (by rw [e]; rfl) i (.int .i64 (u : Int)) (by simp [ints, hi])
    rw [addr_add] at this
    exact this

set_option maxRecDepth 100000 in
/-- slices.Index(s, false), all true. -/
theorem index_any (S n c : Nat) (f : Nat → Bool) (w : World) (hn : n ≤ 256) (hS : Bools w S n f) (hf : ∀ v, v < n → f v = true) :
    Calls Ybaf.prog 16 #[.slice (some ⟨S, 0, none⟩) n c, .bool false] w fun e w' => e = .returned (.int .i64 (-1)) ∧ w' = w := by
  have HS := hide hS
  have Hf := hide hf
  clear hS hf
  go_enter Ybaf.func16, Ybaf.ntmps16
  go_wp2_with fail
  go_loopg [8] n (fun gk s8 wr => ∃ i : Nat, i ≤ n ∧ gk = n - i ∧ s8 = .int .i64 (i : Int) ∧ wr = w)
  case atStart => exact ⟨0, Nat.zero_le _, rfl, rfl, rfl⟩
  case round =>
    obtain ⟨i, hi, rfl, rfl, rfl⟩ := hrel
    by_cases hlt : i < n
    · have hl : (i : Int) < (n : Int) := by omega
      have c1 := HS.out.cell i hlt
      rw [Hf.out i hlt] at c1
      go_wp2_with fail
      go_roundg (n - (i + 1))
      case measure => omega
      case rel => exact ⟨i + 1, by omega, rfl, by go_num, rfl⟩
    · have hl : ¬ (i : Int) < (n : Int) := by omega
      go_wp2_with fail
      go_ret
      exact ⟨rfl, rfl⟩

/-- The neighbours as the edges bring them. -/
def nbE (Es : List (Nat × Nat)) (v : Nat) : List Nat := Es.flatMap fun e => (if v = e.1 then [e.2] else []) ++ (if v = e.2 then [e.1] else [])
theorem nbE_snoc (Es : List (Nat × Nat)) (a b v : Nat) : nbE (Es ++ [(a, b)]) v = nbE Es v ++ ((if v = a then [b] else []) ++ (if v = b then [a] else [])) := by simp [nbE]
theorem nbE_two (Es : List (Nat × Nat)) {a b : Nat} (hab : a ≠ b) : (fun v => if v = b then (fun v => if v = a then nbE Es a ++ [b] else nbE Es v) b ++ [a] else (fun v => if v = a then nbE Es a ++ [b] else nbE Es v) v) = nbE (Es ++ [(a, b)]) := by
  funext v
  rw [nbE_snoc]
  by_cases e1 : v = b
  · subst e1
    have : v ≠ a := Ne.symm hab
    simp [this]
  · by_cases e2 : v = a
    · subst e2
      simp [e1]
    · simp [e1, e2]
theorem mem_nbE (Es : List (Nat × Nat)) (v u : Nat) : u ∈ nbE Es v ↔ ((v, u) ∈ Es ∨ (u, v) ∈ Es) := by
  unfold nbE
  rw [List.mem_flatMap]
  constructor
  · rintro ⟨⟨a, b⟩, h1, h2⟩
    rcases List.mem_append.1 h2 with h3 | h3
    · by_cases e : v = a
      · simp [e] at h3; subst h3; subst e; exact Or.inl h1
      · simp [e] at h3
    · by_cases e : v = b
      · simp [e] at h3; subst h3; subst e; exact Or.inr h1
      · simp [e] at h3
  · rintro (h | h)
    · exact ⟨(v, u), h, by simp⟩
    · exact ⟨(u, v), h, by simp⟩
theorem nbE_nodup : ∀ (Es : List (Nat × Nat)), Es.Nodup → (∀ e ∈ Es, e.2 < e.1) → ∀ v, (nbE Es v).Nodup
  | [], _, _, v => by simp [nbE]
  | (a, b) :: Es, hd, hlt, v => by
    have ih := nbE_nodup Es (List.nodup_cons.1 hd).2 (fun e he => hlt e (by simp [he])) v
    have hab : b < a := hlt (a, b) (by simp)
    have hno := (List.nodup_cons.1 hd).1
    have hlt' : ∀ e ∈ Es, e.2 < e.1 := fun e he => hlt e (by simp [he])
    have hx : nbE ((a, b) :: Es) v = ((if v = a then [b] else []) ++ (if v = b then [a] else [])) ++ nbE Es v := by simp [nbE]
    rw [hx]
    by_cases e1 : v = a
    · subst e1
      have : v ≠ b := by omega
      simp only [if_pos, if_neg this, List.append_nil, List.cons_append, List.nil_append]
      refine List.nodup_cons.2 ⟨fun hm => ?_, ih⟩
      rcases (mem_nbE Es v b).1 hm with h | h
      · exact hno h
      · have := hlt' _ h; simp at this; omega
    · by_cases e2 : v = b
      · subst e2
        simp only [if_pos, if_neg e1, List.cons_append, List.nil_append]
        refine List.nodup_cons.2 ⟨fun hm => ?_, ih⟩
        rcases (mem_nbE Es v a).1 hm with h | h
        · have := hlt' _ h; simp at this; omega
        · exact hno h
      · simp [e1, e2]; exact ih
theorem nbE_short {n : Nat} (Es : List (Nat × Nat)) (hd : Es.Nodup) (hlt : ∀ e ∈ Es, e.2 < e.1 ∧ e.1 < n) (i v : Nat) : (nbE (Es.take i) v).length ≤ n := by
  have hs : (Es.take i).Sublist Es := List.take_sublist _ _
  refine Gr.short_of n _ (nbE_nodup _ (hd.sublist hs) (fun e he => (hlt e (hs.subset he)).1) v) fun u hu => ?_
  rcases (mem_nbE _ v u).1 hu with h | h
  · have := hlt _ (hs.subset h); simp at this; omega
  · have := hlt _ (hs.subset h); simp at this; omega
end Go.Proofs.YbulkbmsFmt
