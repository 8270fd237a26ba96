import Derived.Test.YbulkbmsFmtNewR
import Derived.Test.YbulkbmsFmtOrd
import Derived.Deep.CutBlock
namespace Go.Proofs.YbulkbmsFmt
open Go.RowKit Go.Maps

set_option maxRecDepth 100000 in
set_option maxHeartbeats 4000000 in
theorem new_any (w : World) (noun : ByteArray) (bl cl be ce n m : Nat) (Es : List (Nat × Nat)) (adj : Nat → Nat → Bool) (hn0 : 0 < n) (hn : n ≤ 256) (hm : m ≤ 512) (hml : Es.length = m)
    (hlabs : ∀ j, j < n → w.cell? ⟨bl, j, none⟩ = some (.string (lab j)))
    (hedges : ∀ (i a b : Nat), Es[i]? = some (a, b) → w.cell? ⟨be, i * 2, none⟩ = some (.string (lab a)) ∧ w.cell? ⟨be, i * 2 + 1, none⟩ = some (.string (lab b)))
    (hE : ∀ e ∈ Es, e.2 < e.1 ∧ e.1 < n) (hd : Es.Nodup) (hsym : ∀ a b, adj a b = adj b a) (hlt : ∀ a b, adj a b = true → a < n ∧ b < n) (hadj : ∀ a b, adj a b = true ↔ ((a, b) ∈ Es ∨ (b, a) ∈ Es)) (hconn : ∀ v, v < n → Gr.Reach adj (fun _ => false) 0 v) :
    Calls Ybaf.prog 8 #[.string noun, .slice (some ⟨bl, 0, none⟩) n cl, .slice (some ⟨be, 0, none⟩) m ce] w fun e w' => ∃ g nb, e = .returned (.tuple #[.pointer (some ⟨g, 0, none⟩), .nilIface]) ∧ GraphAt w' g n nb ∧ Gr.Nbs adj nb n ∧ (∀ v, v < n → (nb v).Pairwise (· ≤ ·)) ∧ Below w.heap.size w w' := by
  obtain ⟨i0, hi, hz0, hz1, hz2⟩ := info_parts Ybaf.info3
  have Hlabs := hide hlabs
  have Hedges := hide hedges
  have HE := hide hE
  have HL := hide (And.intro hd (And.intro hsym (And.intro hlt (And.intro hadj hconn))))
  have Hml := hide hml
  have hmap := make_map n
  have hn1 : ¬ (n : Int) = 0 := by omega
  clear hlabs hedges hE hd hsym hlt hadj hconn hml
  go_enter Ybaf.func8, Ybaf.ntmps8
  go_upto_region 3 with fail
  go_cut [8] (fun s8 wx => ∃ (g M ρ c : Nat), s8 = .pointer (some ⟨g, 0, none⟩) ∧ Hid (N0 w wx g M ρ c n (fun _ => none) 0))
  case first =>
    as_aux_lemma =>
      go_region_held3 (fun _ => True) (trivial)
        (first | (go_at_call 14; refine (values_any _ _ _ _).mono ?_; rintro e w' ⟨rfl, rfl⟩) | (go_at_call 13; refine (sorted_here w _ bl cl n _ hn0 hn Hlabs.out (by with_reducible (repeat (first | exact Below.refl _ _ | refine bl_al ?_ _ | refine bl_dr ?_))) (by go_simp)).mono ?_; rintro e w' ⟨ρ, c, rfl, HSo⟩))
      all_goals
        go_wp2_with fail
        go_meet
        first
          | exact ⟨_, _, ρ, c, rfl, n0_a (bl_al (bl_dr (Below.refl _ _)) _) HSo.out⟩
          | exact ⟨_, _, ρ, c, rfl, n0_b (M := w.heap.size + 1) (bl_al (bl_al (bl_dr (Below.refl _ _)) _) _) (by simp) (by have h7 := MapIs.made (P := Ybaf.prog) (K := 9) (E := 3) (lit := litS) (w.drew.alloc (.cells #[.slice (some ⟨bl, 0, none⟩) n cl] 24)) (fun _ => none) (fun _ => rfl); simpa using h7) HSo.out⟩
          | exact ⟨_, _, ρ, c, rfl, n0_b (M := w.heap.size) (bl_al (bl_al (bl_dr (Below.refl _ _)) _) _) (by constructor <;> simp <;> omega) (MapIs.block (MapIs.made (P := Ybaf.prog) (K := 9) (E := 3) (lit := litS) w.drew (fun _ => none) (fun _ => rfl)) (Below.heap_alloc _ _ _ (by simp))) HSo.out⟩
  case rest =>
    as_aux_lemma =>
      obtain ⟨g, M, ρ, c, rfl, HN⟩ := hcut
      have c1 := HN.out.labs
      go_upto_block 0 with fail
      clear c1 hmap
      go_cut [9] (fun _ wx => ∃ f, Hid (∀ j, j < n → f (lab j) = some (j : Int)) ∧ Hid (N0 w wx g M ρ c n f n))
      case first =>
        as_aux_lemma =>
          go_wp2_with fail
          go_loopg [44] n (fun gk s44 wr => ∃ (v : Nat) (f : ByteArray → Option Int), v ≤ n ∧ gk = n - v ∧ s44 = .int .i64 (v : Int) ∧ Hid ((∀ j, j < v → f (lab j) = some (j : Int)) ∧ ∀ s, (∀ j, j < v → s ≠ lab j) → f s = none) ∧ Hid (N0 w wr g M ρ c n f v))
          case atStart => exact ⟨0, fun _ => none, Nat.zero_le _, rfl, rfl, ⟨fun j hj => by omega, fun _ _ => rfl⟩, HN.out⟩
          case round =>
            clear HN
            obtain ⟨v, f, hv, rfl, rfl, Hf, HN⟩ := hrel
            by_cases hvn : v < n
            · have hl1 : (v : Int) < (n : Int) := by omega
              have c1 := HN.out.strs v hvn
              have c2 := HN.out.mp
              obtain ⟨q, hM⟩ := HN.out.map
              have hnone : f (lab v) = none := Hf.out.2 _ (fun j hj e => by have := lab_inj (by omega) (by omega) e; omega)
              have hlk := hM.look_ok law9 Ybaf.underlying46 Ybaf.underlying3 (zero3 wr) (keyS (lab_size v))
              rw [hnone] at hlk
              obtain ⟨w3, hup, hM3, hW3⟩ := hM.store (g := fun s => if s = lab v then some (v : Int) else f s) law9 Ybaf.underlying46 Ybaf.underlying3 (by unfold maxLen; omega) litS_inj (keyS (lab_size v)) (x := (v : Int)) (by have h9 := wrap64_wf (v : Int); have h10 : wrap64 (v : Int) = v := (by unfold wrap64; omega); rwa [h10] at h9) (by simp) (fun b hb => by simp [hb])
              have HN2 := hide (HN.out.turn hW3 hM3)
              have Hf2 : Hid ((∀ j, j < v + 1 → (fun s => if s = lab v then some (v : Int) else f s) (lab j) = some (j : Int)) ∧ ∀ s, (∀ j, j < v + 1 → s ≠ lab j) → (fun s => if s = lab v then some (v : Int) else f s) s = none) := by
                refine ⟨fun j hj => ?_, fun s hs => ?_⟩
                · show (if lab j = lab v then some (v : Int) else f (lab j)) = _
                  by_cases e : j = v
                  · subst e; simp
                  · rw [if_neg (fun e2 => e (lab_inj (by omega) (by omega) e2))]
                    exact Hf.out.1 j (by omega)
                · show (if s = lab v then some (v : Int) else f s) = none
                  rw [if_neg (hs v (by omega))]
                  exact Hf.out.2 s (fun j hj => hs j (by omega))
              clear hM3 hW3 hM
              generalize lab v = lv at c1 hlk hup
              go_wp2_with fail
              go_roundg (n - (v + 1))
              case measure => omega
              case rel => exact ⟨v + 1, fun s => if s = lab v then some (v : Int) else f s, by omega, rfl, by go_num, Hf2.out, HN2.out⟩
            · obtain rfl : v = n := by omega
              go_wp2_with fail
              go_meet
              exact ⟨f, Hf.out.1, HN.out⟩
      case rest =>
        as_aux_lemma =>
          clear HN
          obtain ⟨f, Hf, HN⟩ := hcut
          have hmk := run_make_row' (P := Ybaf.prog) 36 23 (.slice none 0 0) 24 Ybaf.underlying36 Ybaf.info23 rfl .i64 .i64 n (by omega) (by omega)
          have cst := (Fr.alloc wc (.cells (madeCells #[.slice none 0 0] n) 23) (fun _ => False)).cell HN.out.nbs (fun e => e)
          have fst := ((Fr.alloc wc (.cells (madeCells #[.slice none 0 0] n) 23) (fun _ => False)).frozenAt (a := ⟨g, 2, none⟩) HN.out.hi.1 (fun e => e)).trans (HN.out.fz 2)
          have HN1 := hide (n1_start HN.out)
          have hbn0 := HN.out.hi
          obtain ⟨bn, hbn⟩ : ∃ bn, wc.heap.size = bn := ⟨_, rfl⟩
          rw [hbn] at HN1
          go_upto_block 2 with fail
          clear cst fst hmk HN hbn hbn0
          generalize ((wc.alloc (.cells (madeCells #[.slice none 0 0] n) 23)).setCell ⟨g, 2, none⟩ (.slice (some ⟨bn, 0, none⟩) n n)) = W0 at HN1 ⊢
          go_cut [15] (fun _ wx => ∃ V, Hid (N1 w wx g M ρ c bn n f V (nbE Es)))
          case first =>
            as_aux_lemma =>
              go_wp2_with fail
              go_loopg [80] m (fun gk s80 wr => ∃ (i : Nat) (V : Nat → Value), i ≤ m ∧ gk = m - i ∧ s80 = .int .i64 (i : Int) ∧ Hid (N1 w wr g M ρ c bn n f V (nbE (Es.take i))))
              case atStart => exact ⟨0, _, Nat.zero_le _, rfl, rfl, HN1.out.cong (fun v _ => by simp [nbE])⟩
              case round =>
                clear HN1
                obtain ⟨i, V, hi', rfl, rfl, HN⟩ := hrel
                by_cases him : i < m
                · have hl1 : (i : Int) < (m : Int) := by omega
                  obtain ⟨⟨a, b⟩, hab⟩ : ∃ e, Es[i]? = some e := ⟨Es[i]'(by rw [Hml.out]; exact him), List.getElem?_eq_getElem _⟩
                  have hEab := HE.out (a, b) (List.mem_of_getElem? hab)
                  simp only at hEab
                  obtain ⟨ca', cb'⟩ := Hedges.out i a b hab
                  have ca := cell_later HN.out.below ca'
                  have cb := cell_later HN.out.below cb'
                  have Hab := hide hab
                  clear ca' cb' hab
                  obtain ⟨T, hT⟩ : ∃ T, wr.heap.size = T := ⟨_, rfl⟩
                  have HX := hide (HN.out.fr (Fr.alloc wr (.cells #[.string (lab a), .string (lab b)] 27) (fun _ => False)))
                  have hnewb := heap_alloc_new wr (.cells #[.string (lab a), .string (lab b)] 27)
                  rw [hT] at hnewb
                  have t0 : (wr.alloc (.cells #[.string (lab a), .string (lab b)] 27)).cell? ⟨T, 0, none⟩ = some (.string (lab a)) := by unfold World.cell?; rw [hnewb]; rfl
                  have t1 : (wr.alloc (.cells #[.string (lab a), .string (lab b)] 27)).cell? ⟨T, 1, none⟩ = some (.string (lab b)) := by unfold World.cell?; rw [hnewb]; rfl
                  have HLa : Hid (f (lab a) = some (a : Int)) := Hf.out a (by omega)
                  have HLb : Hid (f (lab b) = some (b : Int)) := Hf.out b (by omega)
                  have HlT : Hid (T < (wr.alloc (.cells #[.string (lab a), .string (lab b)] 27)).heap.size) := by show _ < _; simp; omega
                  clear hnewb
                  go_upto_region 16 with fail
                  clear ca cb HN hT
                  generalize wr.alloc (.cells #[.string (lab a), .string (lab b)] 27) = X at HX t0 t1 HlT ⊢
                  have c1 := HX.out.mp
                  obtain ⟨mm, q, hM⟩ := HX.out.map
                  have hlk0 := (MapIs.block (w' := X.drew) hM rfl).look_ok law9 Ybaf.underlying46 Ybaf.underlying3 (zero3 X.drew) (keyS (lab_size a))
                  rw [HLa.out] at hlk0
                  generalize lab a = la at t0 hlk0 HLa
                  have Hlb : Hid ((lab b).size ≤ maxLen) := lab_size b
                  generalize lab b = lb at t1 HLb Hlb
                  go_region
                  have HY : Hid (N1 w X.drew g M ρ c bn n f V (nbE (Es.take i))) := HX.out.drewN 1
                  have t1' : X.drew.cell? ⟨T, 1, none⟩ = some (.string lb) := t1
                  clear HX t0 t1 HlT c1 hM hlk0 HLa
                  generalize X.drew = Y at HY t1' ⊢
                  have c1 := HY.out.mp
                  obtain ⟨mm2, q2, hM2⟩ := HY.out.map
                  have hlk1 := (MapIs.block (w' := Y.drew) hM2 rfl).look_ok (a := lb) law9 Ybaf.underlying46 Ybaf.underlying3 (zero3 Y.drew) (keyS Hlb.out)
                  rw [HLb.out] at hlk1
                  go_upto_region 17 with fail
                  go_region
                  have HZ : Hid (N1 w Y.drew g M ρ c bn n f V (nbE (Es.take i))) := HY.out.drewN 1
                  clear HY t1' c1 hM2 hlk1 HLb Hlb
                  generalize Y.drew = Z at HZ ⊢
                  have hne : ¬ (a : Int) = (b : Int) := by omega
                  have han : (a : Int) < (n : Int) := by omega
                  have hbn' : (b : Int) < (n : Int) := by omega
                  go_upto_region 22 with fail
                  go_cut [16] (fun _ wx => ∃ V', Hid (N1 w wx g M ρ c bn n f V' (fun v => if v = a then nbE (Es.take i) a ++ [b] else nbE (Es.take i) v)))
                  case first =>
                    as_aux_lemma =>
                      have c1 := HZ.out.nbs
                      have c2 := HZ.out.rows a (by omega)
                      have f2 := HZ.out.free a (by omega)
                      obtain ⟨La, hLa⟩ : ∃ La, (nbE (Es.take i) a).length = La := ⟨_, rfl⟩
                      have HLa := hide hLa
                      have hLa2 : La ≤ 512 := by
                        rw [← hLa]
                        have := nbE_short Es HL.out.1 HE.out i a
                        omega
                      have HOa : Hid (Z.ownsRow (bn + 1) 3 1 (V a) La (ints (nbE (Es.take i) a))) := by have := HZ.out.own a (by omega); rw [hLa] at this; exact this
                      obtain ⟨va, hva⟩ : ∃ va, V a = va := ⟨_, rfl⟩
                      have Hva := hide hva
                      rw [hva] at c2 HOa
                      have HVb : Hid (∀ b', va.ownBlock = some b' → bn + 1 ≤ b') := fun b' hb' => ((HOa.out.lt b' hb')).1
                      have hsz := HZ.out.size
                      have hlo := HZ.out.lo
                      have c1a := Fr.cell (Fr.alloc Z (.cells #[.int .i64 (b : Int)] 3) (fun _ => False)) c1 (fun e => e)
                      have c2a := Fr.cell (Fr.alloc Z (.cells #[.int .i64 (b : Int)] 3) (fun _ => False)) c2 (fun e => e)
                      have f2a := (Fr.frozenAt (a := ⟨bn, a, none⟩) (Fr.alloc Z (.cells #[.int .i64 (b : Int)] 3) (fun _ => False)) hsz (fun e => e)).trans f2
                      clear hLa hva
                      obtain ⟨ρ1, cap, w1, happ, hown1, hgr1, hat1, hlt1⟩ := run_append_lies (P := Ybaf.prog) ((Z.alloc (.cells #[.int .i64 (b : Int)] 3)).drew) 23 23 (bn + 1) 3 i0 _ 1 8 Ybaf.underlying23 hi hz0 hz1 hz2 rfl (by omega) va La (ints (nbE (Es.take i) a)) ((HOa.out.alloc _).drew) ⟨Z.heap.size, 0, none⟩ 1 1 [.int .i64 (b : Int)] rfl (one_at Z b 3) (by intro u hu; simp at hu; subst hu; rfl) (by omega) (by unfold maxLen; omega) (by omega) (by simp; omega) (Z.heap.size + 1) (by simp)
                      simp [go_sem] at happ
                      have cA := (hgr1.cell_far ⟨g, 2, none⟩ (by simp; omega) (fun e => by have := HVb.out g e.symm; omega)).trans c1a
                      have cB := (hgr1.cell_far ⟨bn, a, none⟩ (by simp; omega) (fun e => by have := HVb.out bn e.symm; omega)).trans c2a
                      have fB := (hgr1.frozen_far ⟨bn, a, none⟩ (by simp; omega) (fun e => by have := HVb.out bn e.symm; omega)).trans f2a
                      have Hown1 := hide hown1
                      have Hgr1 := hide hgr1
                      have Hat1 := hide hat1
                      clear hown1 hgr1 hat1
                      go_big_region
                      have HP := hide ((HZ.out.drewN 1).push (u := a) (x := b) (ρ1 := ρ1) (cap := cap) (w1 := w1) (by omega) (o := .cells #[.int .i64 (b : Int)] 3) (by rw [Hva.out]; exact Hgr1.out) (by rw [HLa.out]; exact Hown1.out) (by rw [Hva.out]; rcases Hat1.out with e | e; exact Or.inl e; exact Or.inr (by rw [e]; simp)))
                      rw [HLa.out] at HP
                      clear cA cB fB c1 c2 f2 c1a c2a f2a
                      go_wp2_with fail
                      go_meet
                      exact ⟨_, HP.out⟩
                  case rest =>
                    as_aux_lemma =>
                      clear HZ
                      obtain ⟨V2, HZ⟩ := hcut
                      obtain ⟨L2, hL2⟩ : ∃ L2 : Nat → List Nat, (fun v => if v = a then nbE (Es.take i) a ++ [b] else nbE (Es.take i) v) = L2 := ⟨_, rfl⟩
                      rw [hL2] at HZ
                      have HL2 := hide hL2
                      have c1 := HZ.out.nbs
                      have c2 := HZ.out.rows b (by omega)
                      have f2 := HZ.out.free b (by omega)
                      obtain ⟨La, hLa⟩ : ∃ La, (L2 b).length = La := ⟨_, rfl⟩
                      have HLa := hide hLa
                      have hLa2 : La ≤ 512 := by
                        rw [← hLa, ← hL2]
                        have := nbE_short Es HL.out.1 HE.out i b
                        show (if b = a then _ else _ : List Nat).length ≤ _
                        rw [if_neg (by omega)]
                        omega
                      have HOa : Hid (wc.ownsRow (bn + 1) 3 1 (V2 b) La (ints (L2 b))) := by have := HZ.out.own b (by omega); rw [hLa] at this; exact this
                      obtain ⟨va, hva⟩ : ∃ va, V2 b = va := ⟨_, rfl⟩
                      have Hva := hide hva
                      rw [hva] at c2 HOa
                      have HVb : Hid (∀ b', va.ownBlock = some b' → bn + 1 ≤ b') := fun b' hb' => ((HOa.out.lt b' hb')).1
                      have hsz := HZ.out.size
                      have hlo := HZ.out.lo
                      have c1a := Fr.cell (Fr.alloc wc (.cells #[.int .i64 (a : Int)] 3) (fun _ => False)) c1 (fun e => e)
                      have c2a := Fr.cell (Fr.alloc wc (.cells #[.int .i64 (a : Int)] 3) (fun _ => False)) c2 (fun e => e)
                      have f2a := (Fr.frozenAt (a := ⟨bn, b, none⟩) (Fr.alloc wc (.cells #[.int .i64 (a : Int)] 3) (fun _ => False)) hsz (fun e => e)).trans f2
                      clear hLa hva hL2
                      obtain ⟨ρ1, cap, w1, happ, hown1, hgr1, hat1, hlt1⟩ := run_append_lies (P := Ybaf.prog) ((wc.alloc (.cells #[.int .i64 (a : Int)] 3)).drew) 23 23 (bn + 1) 3 i0 _ 1 8 Ybaf.underlying23 hi hz0 hz1 hz2 rfl (by omega) va La (ints (L2 b)) ((HOa.out.alloc _).drew) ⟨wc.heap.size, 0, none⟩ 1 1 [.int .i64 (a : Int)] rfl (one_at wc a 3) (by intro u hu; simp at hu; subst hu; rfl) (by omega) (by unfold maxLen; omega) (by omega) (by simp; omega) (wc.heap.size + 1) (by simp)
                      simp [go_sem] at happ
                      have cA := (hgr1.cell_far ⟨g, 2, none⟩ (by simp; omega) (fun e => by have := HVb.out g e.symm; omega)).trans c1a
                      have cB := (hgr1.cell_far ⟨bn, b, none⟩ (by simp; omega) (fun e => by have := HVb.out bn e.symm; omega)).trans c2a
                      have fB := (hgr1.frozen_far ⟨bn, b, none⟩ (by simp; omega) (fun e => by have := HVb.out bn e.symm; omega)).trans f2a
                      have Hown1 := hide hown1
                      have Hgr1 := hide hgr1
                      have Hat1 := hide hat1
                      clear hown1 hgr1 hat1
                      go_upto_region 23 with fail
                      go_big_region
                      have HP := hide ((HZ.out.drewN 1).push (u := b) (x := a) (ρ1 := ρ1) (cap := cap) (w1 := w1) (by omega) (o := .cells #[.int .i64 (a : Int)] 3) (by rw [Hva.out]; exact Hgr1.out) (by rw [HLa.out]; exact Hown1.out) (by rw [Hva.out]; rcases Hat1.out with e | e; exact Or.inl e; exact Or.inr (by rw [e]; simp)))
                      rw [HLa.out] at HP
                      clear cA cB fB c1 c2 f2 c1a c2a f2a
                      go_wp2_with fail
                      go_roundg (m - (i + 1))
                      case measure => omega
                      case rel =>
                        refine ⟨i + 1, _, by omega, rfl, by go_num, HP.out.cong (fun v _ => ?_)⟩
                        rw [List.take_add_one, Hab.out]
                        have h8 := congrFun (nbE_two (Es.take i) (a := a) (b := b) (by omega)) v
                        rw [← HL2.out]
                        exact h8
                · obtain rfl : i = m := by omega
                  go_wp2_with fail
                  go_meet
                  exact ⟨V, by have := HN.out; rw [← Hml.out, List.take_length] at this; exact this⟩
          case rest =>
            as_aux_lemma =>
              clear HN1
              obtain ⟨V, HN⟩ := hcut
              have c1 := HN.out.nbs
              go_upto_block 5 with fail
              clear c1
              go_cut [19] (fun _ wx => Hid (N1 w wx g M ρ c bn n f V (fun v => srt (nbE Es v))))
              case first =>
                as_aux_lemma =>
                  go_wp2_with fail
                  go_loopg [171] n (fun gk s171 wr => ∃ u : Nat, u ≤ n ∧ gk = n - u ∧ s171 = .int .i64 (u : Int) ∧ Hid (N1 w wr g M ρ c bn n f V (fun v => if v < u then srt (nbE Es v) else nbE Es v)))
                  case atStart => exact ⟨0, Nat.zero_le _, rfl, rfl, HN.out.cong (fun v _ => by simp)⟩
                  case round =>
                    clear HN
                    obtain ⟨u, hu, rfl, rfl, HN⟩ := hrel
                    by_cases hun : u < n
                    · have hl1 : (u : Int) < (n : Int) := by omega
                      have c1 := HN.out.rows u hun
                      obtain ⟨lU, hlU⟩ : ∃ lU, (nbE Es u).length = lU := ⟨_, rfl⟩
                      have hlU2 : lU ≤ 256 := by
                        rw [← hlU]
                        have := nbE_short Es HL.out.1 HE.out Es.length u
                        rw [List.take_length] at this
                        omega
                      have HlU := hide hlU
                      obtain ⟨aV, cV, hVu⟩ : ∃ aV cV, V u = .slice aV lU cV := by
                        have h7 := HN.out.own u hun
                        simp only [Nat.lt_irrefl, if_false] at h7
                        rcases h7.2 with ⟨e, h0⟩ | ⟨gb, cap, cur, e, _⟩
                        · exact ⟨none, 0, by rw [e, ← hlU, h0]⟩
                        · exact ⟨_, cap, by rw [e, hlU]⟩
                      have HVu := hide hVu
                      have HS := hide (sort_row HN.out hun (by simp only [Nat.lt_irrefl, if_false]; omega))
                      rw [hVu] at c1 HS
                      clear hlU hVu
                      go_upto_block 7 with (first | (go_at_call 15; refine HS.out.mono ?_; rintro e w' ⟨rfl, HN2⟩) | fail)
                      have HN3 : Hid (N1 w w' g M ρ c bn n f V (fun v => if v < u + 1 then srt (nbE Es v) else nbE Es v)) := HN2.out.cong (fun v _ => by
                        by_cases e : v = u
                        · subst e; simp
                        · by_cases e2 : v < u
                          · simp [e, e2, show v < u + 1 by omega]
                          · simp [e, e2, show ¬ v < u + 1 by omega])
                      clear c1 HS HN2 HN
                      go_wp2_with fail
                      go_loopg [21] lU (fun gk s21 wr => ∃ j : Nat, j ≤ lU ∧ gk = lU - j ∧ s21 = .int .i64 ((j : Int) + 1) ∧ Hid (N1 w wr g M ρ c bn n f V (fun v => if v < u + 1 then srt (nbE Es v) else nbE Es v)))
                      case atStart => exact ⟨0, Nat.zero_le _, rfl, rfl, HN3.out⟩
                      case round =>
                        clear HN3
                        obtain ⟨j, hj, rfl, rfl, HN⟩ := hrel
                        by_cases hjl : j + 1 < lU
                        · have hl2 : (j : Int) + 1 < (lU : Int) := by omega
                          have hlen : (srt (nbE Es u)).length = lU := by rw [srt_length, HlU.out]
                          obtain ⟨x, hx⟩ : ∃ x, (srt (nbE Es u))[j + 1]? = some x := ⟨(srt (nbE Es u))[j + 1]'(by omega), List.getElem?_eq_getElem _⟩
                          obtain ⟨y, hy⟩ : ∃ y, (srt (nbE Es u))[j]? = some y := ⟨(srt (nbE Es u))[j]'(by omega), List.getElem?_eq_getElem _⟩
                          have hxy : ¬ (x : Int) = (y : Int) := by
                            intro e
                            have e' : x = y := by omega
                            subst e'
                            have hnd : (srt (nbE Es u)).Nodup := (srt_perm _).nodup_iff.2 (nbE_nodup Es HL.out.1 (fun e he => (HE.out e he).1) u)
                            refine not_in_take hnd hx (List.mem_of_getElem? (i := j) ?_)
                            rw [List.getElem?_take_of_lt (by omega)]
                            exact hy
                          obtain ⟨_, _, h7, h8⟩ := HN.out.graph.neighs
                          obtain ⟨a9, c9, h10, h11⟩ := h8 u hun
                          simp only [show u < u + 1 by omega, if_true] at h10 h11
                          obtain ⟨b1, e1, cx'⟩ := h11 (j + 1) x hx
                          obtain ⟨b2, e2, cy'⟩ := h11 j y hy
                          have hbb : b1 = b2 := by rw [e1] at e2; injection e2 with e2; injection e2
                          have hnb := HN.out.nbs
                          rw [h7] at hnb
                          have hra : aV = a9 := by
                            have h12 := HN.out.rows u hun
                            rw [HVu.out] at h12
                            injection hnb with hnb
                            injection hnb with e5 _ _
                            injection e5 with e5
                            injection e5 with e5 _ _
                            subst e5
                            rw [h12] at h10
                            injection h10 with h10
                            injection h10
                          subst hbb
                          subst e1
                          subst hra
                          have cx := cx'
                          have cy := cy'
                          clear h7 h8 h10 h11 e2 cx' cy' hnb hx hy hlen
                          go_upto_region 32 with fail
                          go_quiet (fail)
                          have HNd := hide (HN.out.drewN nq)
                          go_wp2_with fail
                          go_roundg (lU - (j + 1))
                          case measure => omega
                          case rel => exact ⟨j + 1, by omega, rfl, by go_num, HNd.out⟩
                        · have hl2 : ¬ (j : Int) + 1 < (lU : Int) := by omega
                          go_wp2_with fail
                          go_roundg (n - (u + 1))
                          case measure => omega
                          case rel => exact ⟨u + 1, by omega, rfl, by go_num, HN.out⟩
                    · obtain rfl : u = n := by omega
                      go_wp2_with fail
                      go_meet
                      exact HN.out.cong (fun v hv => by simp [hv])
              case rest =>
                as_aux_lemma =>
                  clear HN
                  have HN := hcut
                  have hmb := run_make_row' (P := Ybaf.prog) 34 4 (.bool false) 1 Ybaf.underlying34 Ybaf.info4 rfl .i64 .i64 n (by omega) (by omega)
                  have NN : Gr.Nbs adj (fun v => srt (nbE Es v)) n := by
                    obtain ⟨hd, hsym, hlt, hadj, _⟩ := HL.out
                    refine ⟨fun v u hv => ?_, hsym, hlt, fun v _ => (srt_perm _).nodup_iff.2 (nbE_nodup Es hd (fun e he => (HE.out e he).1) v)⟩
                    rw [(srt_perm _).mem_iff, mem_nbE, ← hadj]
                    exact ⟨fun h => ⟨(hlt v u h).2, h⟩, fun h => h.2⟩
                  have kB := Fr.alloc wc (.cells (madeCells #[.bool false] n) 4) (fun _ => False)
                  have hC := component_any wc g n adj (fun v => srt (nbE Es v)) HN.out.graph NN wc.heap.size n (fun _ => false) 0 hn0 (.slice none 0 0) [] wc.heap.size (wc.alloc (.cells (madeCells #[.bool false] n) 4)) hn (by simp) ((Below.refl _ wc).alloc (Nat.le_refl _) _) (bools_made wc n) (Nat.le_refl _) (World.ownsRow_nil _ _ _ _) (Nat.le_refl _) (by simp) (by simp [Value.ownBlock])
                  have HC := hide hC
                  clear hC
                  go_wp2_with (first
                    | (go_at_call 11; refine HC.out.mono ?_; rintro e w' ⟨ρ2, c2, t, f2, L, rfl, ht, hcs⟩; have HCs := hide hcs; clear hcs)
                    | (go_at_call 16; refine (index_any wc.heap.size n n f2 _ hn HCs.out.marks (fun v hv => (HCs.out.srch.seen_iff v hv).2 (Or.inr (((HCs.out.srch.over NN ht).mem v).2 (HL.out.2.2.2.2 v hv))))).mono ?_; rintro e w'' ⟨rfl, rfl⟩)
                    | fail)
                  go_ret2
                  exact ⟨g, _, rfl, HN.out.graph.later HCs.out.below, NN, fun v _ => srt_sorted _, HN.out.below.trans (HCs.out.below.mono HN.out.below.size)⟩
end Go.Proofs.YbulkbmsFmt
