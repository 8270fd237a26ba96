/-
  Plain, no Go: the components of the graph without K, as lightest finds them.
-/
import Derived.Test.YbulkbmsFmtReach
namespace Go.Proofs.YbulkbmsFmt.Gr

theorem Reach.mono {adj : Nat → Nat → Bool} {b1 b2 : Nat → Bool} {s v : Nat} (h : Reach adj b1 s v) (hb : ∀ x, b1 x = false → b2 x = false) : Reach adj b2 s v :=
  fun S h0 hc => h S h0 fun a b ha hab hbb => hc a b ha hab (hb b hbb)

structure Comp (adj : Nat → Nat → Bool) (inK : Nat → Bool) (n : Nat) (C : List Nat) : Prop where
  nodup : C.Nodup
  lt : ∀ v ∈ C, v < n
  free : ∀ v ∈ C, inK v = false
  clos : ∀ v ∈ C, ∀ u, adj v u = true → inK u = true ∨ u ∈ C
  conn : ∀ a ∈ C, ∀ b ∈ C, Reach adj inK a b

structure Comps (adj : Nat → Nat → Bool) (inK : Nat → Bool) (n : Nat) (σ : Nat) (seen : Nat → Bool) (of : Nat → Nat) (cs : List (List Nat)) : Prop where
  each : ∀ C ∈ cs, Comp adj inK n C
  at' : ∀ c C, cs[c]? = some C → ∀ v ∈ C, of v = c
  seen_iff : ∀ v, v < n → (seen v = true ↔ inK v = true ∨ ∃ C ∈ cs, v ∈ C)
  cover : ∀ v, v < σ → v < n → seen v = true

theorem Comps.begin (adj : Nat → Nat → Bool) (inK : Nat → Bool) (n : Nat) (of : Nat → Nat) : Comps adj inK n 0 inK of [] :=
  ⟨fun C h => by simp at h, fun c C h => by simp at h, fun v _ => by simp, fun v h => by omega⟩
theorem Comps.skip {adj : Nat → Nat → Bool} {inK : Nat → Bool} {n σ : Nat} {seen : Nat → Bool} {of : Nat → Nat} {cs : List (List Nat)} (h : Comps adj inK n σ seen of cs) (hs : seen σ = true) : Comps adj inK n (σ + 1) seen of cs :=
  ⟨h.each, h.at', h.seen_iff, fun v h1 h2 => by
    by_cases e : v = σ
    · subst e; exact hs
    · exact h.cover v (by omega) h2⟩
/-- A new component. -/
theorem Comps.take {adj : Nat → Nat → Bool} (sym : ∀ a b, adj a b = adj b a) {inK : Nat → Bool} {n σ : Nat} (adlt : ∀ a b, adj a b = true → b < n) {seen seen' : Nat → Bool} {of of' : Nat → Nat} {cs : List (List Nat)} {L : List Nat} (h : Comps adj inK n σ seen of cs) (hσ : σ < n) (hs : seen σ = false)
    (hL : IsReach adj seen σ L) (hLt : ∀ v ∈ L, v < n) (hs' : ∀ v, v < n → (seen' v = true ↔ seen v = true ∨ v ∈ L)) (hof : ∀ v, v < n → of' v = if v ∈ L then cs.length else of v) :
    Comps adj inK n (σ + 1) seen' of' (cs ++ [L]) := by
  have hσK : ∀ v, v < n → seen v = false → inK v = false := fun v hv hsv => by
    cases e : inK v
    · rfl
    · rw [(h.seen_iff v hv).2 (Or.inl e)] at hsv; cases hsv
  have hfree : ∀ v ∈ L, seen v = false := fun v hv => ((hL.mem v).1 hv).free hs
  have hC : Comp adj inK n L := by
    refine ⟨hL.nodup, hLt, fun v hv => hσK v (hLt v hv) (hfree v hv), fun v hv u hvu => ?_, ?_⟩
    · have hun := adlt v u hvu
      cases e : seen u
      · exact Or.inr ((hL.mem u).2 (((hL.mem v).1 hv).step hvu e))
      · rcases (h.seen_iff u hun).1 e with e1 | ⟨C, hC, huC⟩
        · exact Or.inl e1
        · exfalso
          have hvn := hLt v hv
          rcases (h.each C hC).clos u huC v (by rw [sym]; exact hvu) with e2 | e2
          · rw [hσK v hvn (hfree v hv)] at e2; cases e2
          · have := (h.seen_iff v hvn).2 (Or.inr ⟨C, hC, e2⟩)
            rw [hfree v hv] at this; cases this
    · have key : ∀ a ∈ L, Reach adj (fun x => inK x || decide (n ≤ x)) σ a := fun a ha => by
        have h1 := (hL.mem a).1 ha
        refine (h1 (fun x => Reach adj (fun x => inK x || decide (n ≤ x)) σ x) (Reach.self _ _ _) fun x y hx hxy hy => hx.step hxy ?_)
        have hyn := adlt x y hxy
        simp [hσK y hyn hy, hyn]
      have hσ0 : (inK σ || decide (n ≤ σ)) = false := by simp [hσK σ hσ hs, hσ]
      intro a ha b hb
      refine (((key a ha).symm sym hσ0).trans (key b hb)).mono fun x hx => ?_
      simp at hx; exact hx.1
  refine ⟨fun C hC' => ?_, fun c C hC' v hvC => ?_, fun v hv => ?_, fun v h1 h2 => ?_⟩
  · rcases List.mem_append.1 hC' with e | e
    · exact h.each C e
    · simp at e; subst e; exact hC
  · by_cases hc : c < cs.length
    · rw [List.getElem?_append_left hc] at hC'
      have hCm := List.mem_of_getElem? hC'
      have hv := (h.each C hCm).lt v hvC
      have hvL : v ∉ L := fun hvL => by
        have := (h.seen_iff v hv).2 (Or.inr ⟨C, hCm, hvC⟩)
        rw [hfree v hvL] at this; cases this
      rw [hof v hv, if_neg hvL]
      exact h.at' c C hC' v hvC
    · have hc' : c = cs.length := by
        have := (List.getElem?_eq_some_iff.1 hC').1
        simp at this; omega
      subst hc'
      simp at hC'; subst hC'
      rw [hof v (hLt v hvC), if_pos hvC]
  · rw [hs' v hv, h.seen_iff v hv]
    constructor
    · rintro ((e | ⟨C, h1, h2⟩) | e)
      · exact Or.inl e
      · exact Or.inr ⟨C, List.mem_append.2 (Or.inl h1), h2⟩
      · exact Or.inr ⟨L, by simp, e⟩
    · rintro (e | ⟨C, h1, h2⟩)
      · exact Or.inl (Or.inl e)
      · rcases List.mem_append.1 h1 with e | e
        · exact Or.inl (Or.inr ⟨C, e, h2⟩)
        · simp at e; subst e; exact Or.inr h2
  · rw [hs' v h2]
    by_cases e : v = σ
    · subst e; exact Or.inr ((hL.mem v).2 (Reach.self _ _ _))
    · exact Or.inl (h.cover v (by omega) h2)

/-- The blocked vertices as x sees them. -/
def but (inK : Nat → Bool) (x : Nat) : Nat → Bool := fun v => inK v && !(v == x)
theorem but_free (inK : Nat → Bool) (x : Nat) (h : inK x = false) : but inK x = inK := by
  funext v
  unfold but
  by_cases e : v = x
  · subst e; simp [h]
  · simp [e]

/-- For x outside K the component is what x reaches. -/
theorem Comps.outside {adj : Nat → Nat → Bool} {inK : Nat → Bool} {n : Nat} {seen : Nat → Bool} {of : Nat → Nat} {cs : List (List Nat)} (h : Comps adj inK n n seen of cs) {x : Nat} (hx : x < n) (hK : inK x = false) :
    ∃ C, cs[of x]? = some C ∧ IsReach adj (but inK x) x C := by
  rcases (h.seen_iff x hx).1 (h.cover x hx hx) with e | ⟨C, h1, h2⟩
  · rw [hK] at e; cases e
  · have hat : cs[of x]? = some C := by
      obtain ⟨c, hc, he⟩ := List.mem_iff_getElem.1 h1
      have h3 : cs[c]? = some C := by rw [List.getElem?_eq_getElem hc, he]
      rw [h.at' c C h3 x h2]; exact h3
    refine ⟨C, hat, (h.each C h1).nodup, fun v => ?_⟩
    rw [but_free inK x hK]
    refine ⟨fun hv => (h.each C h1).conn x h2 v hv, fun hr => ?_⟩
    refine hr.inside (fun y => y ∈ C) h2 fun a b ha hab hb => ?_
    rcases (h.each C h1).clos a ha b hab with e | e
    · rw [hb] at e; cases e
    · exact e

/-- For x in K: the components beside x, one by one, as its neighbours come. -/
structure Beside (nb : Nat → List Nat) (inK : Nat → Bool) (of : Nat → Nat) (cs : List (List Nat)) (x q : Nat) (cnt : Nat → Bool) (A : List Nat) : Prop where
  nodup : A.Nodup
  mem : ∀ v, v ∈ A ↔ ∃ c C, cs[c]? = some C ∧ cnt c = true ∧ v ∈ C
  cnt_iff : ∀ c, cnt c = true ↔ ∃ i y, i < q ∧ (nb x)[i]? = some y ∧ inK y = false ∧ of y = c
theorem Beside.begin (nb : Nat → List Nat) (inK : Nat → Bool) (of : Nat → Nat) (cs : List (List Nat)) (x : Nat) : Beside nb inK of cs x 0 (fun _ => false) [] :=
  ⟨by simp, fun v => by simp, fun c => by simp⟩
theorem Beside.skip {nb : Nat → List Nat} {inK : Nat → Bool} {of : Nat → Nat} {cs : List (List Nat)} {x q : Nat} {cnt : Nat → Bool} {A : List Nat} (h : Beside nb inK of cs x q cnt A) {y : Nat} (hy : (nb x)[q]? = some y) (hc : inK y = true ∨ cnt (of y) = true) : Beside nb inK of cs x (q + 1) cnt A :=
  ⟨h.nodup, h.mem, fun c => by
    constructor
    · intro e
      obtain ⟨i, z, h1, h2, h3⟩ := (h.cnt_iff c).1 e
      exact ⟨i, z, by omega, h2, h3⟩
    · rintro ⟨i, z, h1, h2, h3, h4⟩
      by_cases e : i = q
      · subst e
        rw [hy] at h2; injection h2 with h2; subst h2
        rcases hc with e1 | e1
        · rw [h3] at e1; cases e1
        · rw [← h4]; exact e1
      · exact (h.cnt_iff c).2 ⟨i, z, by omega, h2, h3, h4⟩⟩
theorem Beside.take {adj : Nat → Nat → Bool} {nb : Nat → List Nat} {inK : Nat → Bool} {n : Nat} {seen : Nat → Bool} {of : Nat → Nat} {cs : List (List Nat)} (H : Comps adj inK n n seen of cs) {x q : Nat} {cnt : Nat → Bool} {A : List Nat} (h : Beside nb inK of cs x q cnt A) {y : Nat} (hy : (nb x)[q]? = some y) (hK : inK y = false) (hc : cnt (of y) = false) {C : List Nat} (hC : cs[of y]? = some C) :
    Beside nb inK of cs x (q + 1) (mark cnt (of y)) (A ++ C) := by
  have hCm : C ∈ cs := List.mem_of_getElem? hC
  have mk : ∀ c, mark cnt (of y) c = true ↔ c = of y ∨ cnt c = true := fun c => by
    unfold mark
    by_cases e : c = of y
    · simp [e]
    · simp [e]
  refine ⟨?_, fun v => ?_, fun c => ?_⟩
  · rw [List.nodup_append]
    refine ⟨h.nodup, (H.each C hCm).nodup, fun a ha b hb e => ?_⟩
    subst e
    obtain ⟨c, D, h1, h2, h3⟩ := (h.mem a).1 ha
    have e1 := H.at' _ C hC a hb
    have e2 := H.at' c D h1 a h3
    rw [← e2, e1, hc] at h2
    cases h2
  · rw [List.mem_append, h.mem v]
    constructor
    · rintro (⟨c, D, h1, h2, h3⟩ | e)
      · exact ⟨c, D, h1, (mk c).2 (Or.inr h2), h3⟩
      · exact ⟨of y, C, hC, (mk _).2 (Or.inl rfl), e⟩
    · rintro ⟨c, D, h1, h2, h3⟩
      rcases (mk c).1 h2 with e | e
      · subst e
        rw [hC] at h1; injection h1 with h1; subst h1
        exact Or.inr h3
      · exact Or.inl ⟨c, D, h1, e, h3⟩
  · rw [mk c, h.cnt_iff c]
    constructor
    · rintro (e | ⟨i, z, h1, h2, h3, h4⟩)
      · exact ⟨q, y, by omega, hy, hK, e.symm⟩
      · exact ⟨i, z, by omega, h2, h3, h4⟩
    · rintro ⟨i, z, h1, h2, h3, h4⟩
      by_cases e : i = q
      · subst e
        rw [hy] at h2; injection h2 with h2; subst h2
        exact Or.inl h4.symm
      · exact Or.inr ⟨i, z, by omega, h2, h3, h4⟩
/-- For x in K: x and the components beside it are what x reaches when K but x is blocked. -/
theorem Beside.over {adj : Nat → Nat → Bool} {nb : Nat → List Nat} {inK : Nat → Bool} {n : Nat} (N : Nbs adj nb n) {seen : Nat → Bool} {of : Nat → Nat} {cs : List (List Nat)} (H : Comps adj inK n n seen of cs) {x q : Nat} {cnt : Nat → Bool} {A : List Nat} (h : Beside nb inK of cs x q cnt A)
    (hx : x < n) (hK : inK x = true) (hq : (nb x).length ≤ q) : IsReach adj (but inK x) x (x :: A) := by
  have hbK : ∀ v, inK v = false → but inK x v = false := fun v hv => by simp [but, hv]
  have hin : ∀ v, v < n → inK v = false → ∃ C, cs[of v]? = some C ∧ v ∈ C := fun v hv hvK => by
    rcases (H.seen_iff v hv).1 (H.cover v hv hv) with e | ⟨C, h1, h2⟩
    · rw [hvK] at e; cases e
    · obtain ⟨c, hc, he⟩ := List.mem_iff_getElem.1 h1
      have h3 : cs[c]? = some C := by rw [List.getElem?_eq_getElem hc, he]
      exact ⟨C, by rw [H.at' c C h3 v h2]; exact h3, h2⟩
  have hnb : ∀ y, y < n → adj x y = true → inK y = false → cnt (of y) = true := fun y hy hxy hyK => by
    obtain ⟨i, hi, he⟩ := List.mem_iff_getElem.1 ((N.iff x y hx).2 ⟨hy, hxy⟩)
    exact (h.cnt_iff _).2 ⟨i, y, by omega, by rw [List.getElem?_eq_getElem hi, he], hyK, rfl⟩
  refine ⟨List.nodup_cons.2 ⟨fun e => ?_, h.nodup⟩, fun v => ⟨fun hv => ?_, fun hr => ?_⟩⟩
  · obtain ⟨c, C, h1, _, h3⟩ := (h.mem x).1 e
    have := (H.each C (List.mem_of_getElem? h1)).free x h3
    rw [hK] at this; cases this
  · rcases List.mem_cons.1 hv with e | e
    · subst e; exact Reach.self _ _ _
    · obtain ⟨c, C, h1, h2, h3⟩ := (h.mem v).1 e
      obtain ⟨i, y, _, h5, h6, h7⟩ := (h.cnt_iff c).1 h2
      have hyx := (N.iff x y hx).1 (List.mem_of_getElem? h5)
      obtain ⟨D, hD, hyD⟩ := hin y hyx.1 h6
      rw [h7, h1] at hD; injection hD with hD; subst hD
      refine ((Reach.self adj (but inK x) x).step hyx.2 (hbK y h6)).trans ?_
      exact ((H.each C (List.mem_of_getElem? h1)).conn y hyD v h3).mono hbK
  · refine hr.inside (fun z => z ∈ x :: A) (by simp) fun a b ha hab hb => ?_
    have hbn := (N.lt a b hab).2
    by_cases ebx : b = x
    · subst ebx; simp
    · have hbK' : inK b = false := by simpa [but, ebx] using hb
      refine List.mem_cons.2 (Or.inr ?_)
      rcases List.mem_cons.1 ha with e | e
      · subst e
        obtain ⟨D, hD, hbD⟩ := hin b hbn hbK'
        exact (h.mem b).2 ⟨of b, D, hD, hnb b hbn hab hbK', hbD⟩
      · obtain ⟨c, C, h1, h2, h3⟩ := (h.mem a).1 e
        rcases (H.each C (List.mem_of_getElem? h1)).clos a h3 b hab with e1 | e1
        · rw [hbK'] at e1; cases e1
        · exact (h.mem b).2 ⟨c, C, h1, h2, e1⟩
end Go.Proofs.YbulkbmsFmt.Gr
