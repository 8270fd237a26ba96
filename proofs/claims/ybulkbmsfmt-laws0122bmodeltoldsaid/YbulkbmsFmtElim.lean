import Derived.Test.YbulkbmsFmtOrd
import Derived.Deep.CutBlock
namespace Go.Proofs.YbulkbmsFmt
open Go.RowKit

set_option maxRecDepth 100000 in
set_option maxHeartbeats 4000000 in
theorem eliminate_any (w0 w : World) (cg g n : Nat) (adj : Nat → Nat → Bool) (nb : Nat → List Nat) (hG : GraphAt w0 g n nb) (N : Gr.Nbs adj nb n) (E : Gr.Elim adj) (hsort : ∀ v, v < n → (nb v).Pairwise (· ≤ ·)) (hn : n ≤ 256) (hB : Below w0.heap.size w0 w) (hlo : w0.heap.size ≤ cg ∧ cg < w.heap.size)
    (h0 : w.cell? ⟨cg, 0, none⟩ = some (.pointer (some ⟨g, 0, none⟩))) (h1 : w.cell? ⟨cg, 1, none⟩ = some (.slice none 0 0)) (h2 : w.cell? ⟨cg, 2, none⟩ = some (.slice none 0 0)) (h3 : w.cell? ⟨cg, 3, none⟩ = some (.int .i64 0)) (hf : ∀ j, w.frozen? ⟨cg, j, none⟩ = false) :
    Calls Ybaf.prog 9 #[.pointer (some ⟨cg, 0, none⟩)] w fun e w' => e = .returned .nilIface ∧ ∃ Ks, ChAt w' cg g n Ks ∧ Below w0.heap.size w0 w' := by
  obtain ⟨i0, hi, hz0, hz1, hz2⟩ := info_parts Ybaf.info3
  obtain ⟨b, hb⟩ : ∃ b, w.heap.size = b := ⟨_, rfl⟩
  have HG := hide hG
  have HB := hide hB
  have Hsort := hide hsort
  have Hf := hide hf
  have HE0 := hide (e1_start (n := n) (by rw [← hb]; exact hlo) hB hb h0 h1 h2 h3 hf)
  have hmk := run_make_row' (P := Ybaf.prog) 23 3 (.int .i64 0) 8 Ybaf.underlying23 Ybaf.info3 rfl .i64 .i64 n (by omega) (by omega)
  have hmb := run_make_row' (P := Ybaf.prog) 34 4 (.bool false) 1 Ybaf.underlying34 Ybaf.info4 rfl .i64 .i64 n (by omega) (by omega)
  have hfz1 := hf 1
  have hcgb : cg ≠ b := by omega
  have hcgl : cg < b := by omega
  have cbx : (w.alloc (.cells #[.pointer (some ⟨cg, 0, none⟩)] 28)).cell? ⟨cg, 0, none⟩ = some (.pointer (some ⟨g, 0, none⟩)) := (Fr.alloc w _ (fun _ => False)).cell h0 (fun e => e)
  have HGa : Hid (GraphAt (w.alloc (.cells #[.pointer (some ⟨cg, 0, none⟩)] 28)) g n nb) := hG.later (hB.trans ((Fr.alloc w _ (fun _ => False)).below hB.size (fun _ e => e.elim)))
  have j0 : Fr w ((((w.alloc (.cells #[.pointer (some ⟨cg, 0, none⟩)] 28)).alloc (.cells (madeCells #[.bool false] n) 4)).alloc (.cells (madeCells #[.int .i64 0] n) 3)).alloc (.cells (madeCells #[.int .i64 0] n) 3)) (fun _ => False) :=
    (((Fr.alloc w _ _).trans (Fr.alloc _ _ _) (fun _ _ e => e)).trans (Fr.alloc _ _ _) (fun _ _ e => e)).trans (Fr.alloc _ _ _) (fun _ _ e => e)
  have cst := j0.cell h1 (fun e => e)
  have fst := (j0.frozenAt (a := ⟨cg, 1, none⟩) (by show cg < _; omega) (fun e => e)).trans (hf 1)
  clear hG hB hsort hf hlo j0
  go_enter Ybaf.func9, Ybaf.ntmps9
  go_upto_region 4 with (first | (go_at_call 10; refine (vertices2_any cg g n nb _ HGa.out cbx).mono ?_; rintro e w' ⟨rfl, rfl⟩) | fail)
  go_region
  simp only [Nat.add_assoc, Nat.reduceAdd]
  clear hmk hmb h1 h2 h3 cbx HGa
  have hne1 : cg ≠ b + 1 := by omega
  have hne2 : cg ≠ b + 2 := by omega
  have hne3 : cg ≠ b + 3 := by omega
  go_upto_block 0 with fail
  clear cst fst
  go_cut [6] (fun _ wx => ∃ (ord : List Nat) (rk : Nat → Int), Hid (Ord adj n ord rk ∧ ord.length = n) ∧ Hid (E1 w0 wx b cg g n (fun v => decide (v ∈ ord)) (fun u => (Gr.cnt adj ord u : Int)) rk))
  case first =>
    as_aux_lemma =>
      go_wp2_with fail
      go_loopg [30] n (fun gk s30 wr => ∃ (i : Nat) (ord : List Nat) (rk : Nat → Int), i ≤ n ∧ gk = n - i ∧ s30 = .int .i64 (i : Int) ∧ Hid (Ord adj n ord rk ∧ ord.length = i) ∧ Hid (E1 w0 wr b cg g n (fun v => decide (v ∈ ord)) (fun u => (Gr.cnt adj ord u : Int)) rk))
      case atStart => exact ⟨0, [], fun _ => 0, Nat.zero_le _, rfl, rfl, ⟨⟨Gr.Mcs.begin adj n, fun j v h => by simp at h⟩, rfl⟩, (HE0.out.drewN 1).cong (fun _ _ => by simp) (fun _ _ => by simp [Gr.cnt]) (fun _ _ => rfl)⟩
      case round =>
        clear HE0
        obtain ⟨i, ord, rk, hi', rfl, rfl, HO, HE⟩ := hrel
        by_cases hin : i < n
        · have hl1 : (i : Int) < (n : Int) := by omega
          go_upto_block 2 with fail
          go_cut [7] (fun s7 wx => ∃ v0 : Nat, v0 < n ∧ s7 = .int .i64 (v0 : Int) ∧ Hid (v0 ∉ ord ∧ ∀ y, y < n → y ∉ ord → Gr.cnt adj ord y ≤ Gr.cnt adj ord v0) ∧ Hid (E1 w0 wx b cg g n (fun v => decide (v ∈ ord)) (fun u => (Gr.cnt adj ord u : Int)) rk))
          case first =>
            as_aux_lemma =>
              go_wp2_with fail
              go_loopg [7, 34] n (fun gk s7 s34 wr => ∃ (u : Nat) (z : Int), u ≤ n ∧ gk = n - u ∧ s7 = .int .i64 z ∧ s34 = .int .i64 (u : Int) ∧ Hid (Pick adj ord u z) ∧ Hid (E1 w0 wr b cg g n (fun v => decide (v ∈ ord)) (fun u => (Gr.cnt adj ord u : Int)) rk))
              case atStart => exact ⟨0, -1, Nat.zero_le _, rfl, rfl, rfl, Or.inl ⟨rfl, fun y hy => by omega⟩, HE.out⟩
              case round =>
                clear HE
                obtain ⟨u, z, hu, rfl, rfl, rfl, HP, HE⟩ := hrel
                by_cases hun : u < n
                · have hl2 : (u : Int) < (n : Int) := by omega
                  have c1 := HE.out.visC.cell u hun
                  by_cases huo : u ∈ ord
                  · have hd : decide (u ∈ ord) = true := by simp [huo]
                    rw [hd] at c1
                    have HP2 := hide (HP.out.seen huo)
                    clear huo hd
                    go_upto_region 12 with fail
                    go_quiet (fail)
                    go_wp2_with fail
                    go_roundg (n - (u + 1))
                    case measure => omega
                    case rel => exact ⟨u + 1, z, by omega, rfl, rfl, by go_num, HP2.out, HE.out.drewN _⟩
                  · have hd : decide (u ∈ ord) = false := by simp [huo]
                    rw [hd] at c1
                    have Huo := hide huo
                    clear huo hd
                    rcases HP.out with ⟨rfl, hall⟩ | ⟨v0, rfl, hv0, hvn, hmx⟩
                    · have HP2 := hide (Pick.first (adj := adj) hall Huo.out)
                      clear hall
                      go_upto_region 12 with fail
                      go_quiet (fail)
                      go_wp2_with fail
                      go_roundg (n - (u + 1))
                      case measure => omega
                      case rel => exact ⟨u + 1, u, by omega, rfl, rfl, by go_num, HP2.out, HE.out.drewN _⟩
                    · have Hvn := hide hvn
                      have Hmx := hide hmx
                      have c2 := HE.out.cntC.cell u hun
                      have c3 := HE.out.cntC.cell v0 (by omega)
                      have hl3 : ¬ (v0 : Int) < 0 := by omega
                      have hl4 : (v0 : Int) < (n : Int) := by omega
                      clear hvn hmx
                      by_cases hgt : Gr.cnt adj ord v0 < Gr.cnt adj ord u
                      · have hgz : (Gr.cnt adj ord v0 : Int) < (Gr.cnt adj ord u : Int) := by omega
                        have HP2 := hide (Pick.better Hmx.out Huo.out hgt)
                        clear hgt
                        go_upto_region 12 with fail
                        go_quiet (fail)
                        go_wp2_with fail
                        go_roundg (n - (u + 1))
                        case measure => omega
                        case rel => exact ⟨u + 1, u, by omega, rfl, rfl, by go_num, HP2.out, HE.out.drewN _⟩
                      · have hgz : ¬ (Gr.cnt adj ord v0 : Int) < (Gr.cnt adj ord u : Int) := by omega
                        have HP2 := hide (Pick.keep hv0 Hvn.out Hmx.out hgt)
                        clear hgt
                        go_upto_region 12 with fail
                        go_quiet (fail)
                        go_wp2_with fail
                        go_roundg (n - (u + 1))
                        case measure => omega
                        case rel => exact ⟨u + 1, v0, by omega, rfl, rfl, by go_num, HP2.out, HE.out.drewN _⟩
                · obtain rfl : u = n := by omega
                  obtain ⟨v0, rfl, hv0, h5, h6⟩ := HP.out.over (by rw [HO.out.2]; exact hin)
                  have H56 := hide (And.intro h5 h6)
                  clear h5 h6
                  go_wp2_with fail
                  go_meet
                  exact ⟨v0, hv0, rfl, H56.out, HE.out⟩
          case rest =>
            as_aux_lemma =>
              clear HE
              obtain ⟨v0, hv0, rfl, H56, HE⟩ := hcut
              have hl2 : (v0 : Int) < (n : Int) := by omega
              have c1 := HE.out.visC.cell v0 hv0
              have f1 := HE.out.visC.free v0 hv0
              have HE1 := hide (HE.out.putVis hv0 true)
              have c2 := HE1.out.box
              have c3 := HE1.out.rank
              have c4 := HE1.out.rkC.cell v0 hv0
              have f4 := HE1.out.rkC.free v0 hv0
              have hn1 : (i : Int) ≤ (n : Int) - 1 := by omega
              have HE2 := hide (HE1.out.putRk hv0 ((n : Int) - 1 - (i : Int)))
              go_upto_region 17 with fail
              clear c1 c2 c3 c4 f1 f4 HE1 HE
              generalize (wc.setCell ⟨b + 1, v0, none⟩ (Value.bool true)).setCell ⟨b + 3, v0, none⟩ (Value.int IntKind.i64 ((n : Int) - 1 - (i : Int))) = W at HE2 ⊢
              have c5 := HE2.out.box
              have c6 := HE2.out.lab
              obtain ⟨lN, hlN⟩ : ∃ lN, (nb v0).length = lN := ⟨_, rfl⟩
              have hlNn : lN ≤ 256 := by have := N.short hv0; omega
              have HlN := hide hlN
              clear hlN
              go_upto_block 4 with (first | (go_at_call 7; refine (neighbours_far (w0 := w0) g n nb v0 hv0 _ HG.out HE2.out.below).mono ?_; rintro e w' ⟨⟨aN, cN, rfl, HNc⟩, rfl⟩; rw [HlN.out]) | fail)
              have HNc2 := hide HNc
              clear HNc c5 c6
              go_wp2_with fail
              go_loopg [79] lN (fun gk s79 wr => ∃ q : Nat, q ≤ lN ∧ gk = lN - q ∧ s79 = .int .i64 (q : Int) ∧ Hid (E1 w0 wr b cg g n (fun v => if v = v0 then true else decide (v ∈ ord)) (fun u => ((Gr.cnt adj ord u + (if u ∈ (nb v0).take q then 1 else 0) : Nat) : Int)) (fun v => if v = v0 then (n : Int) - 1 - (i : Int) else rk v)))
              case atStart => exact ⟨0, Nat.zero_le _, rfl, rfl, HE2.out.cong (fun _ _ => rfl) (fun _ _ => by simp) (fun _ _ => rfl)⟩
              case round =>
                clear HE2
                obtain ⟨q, hq, rfl, rfl, HE⟩ := hrel
                by_cases hql : q < lN
                · have hl3 : (q : Int) < (lN : Int) := by omega
                  obtain ⟨y, hy⟩ : ∃ y, (nb v0)[q]? = some y := ⟨(nb v0)[q]'(by rw [HlN.out]; exact hql), List.getElem?_eq_getElem _⟩
                  have hyn := ((N.iff v0 y hv0).1 (List.mem_of_getElem? hy)).1
                  have hyz : (y : Int) < (n : Int) := by omega
                  obtain ⟨bN, rfl, hcy'⟩ := HNc2.out q y hy
                  have cY : wr.cell? ⟨bN, q, none⟩ = some (.int .i64 (y : Int)) := cell_later HE.out.below hcy'
                  have hnot : y ∉ (nb v0).take q := not_in_take (N.nodup v0 hv0) hy
                  have cC := HE.out.cntC.cell y hyn
                  rw [if_neg hnot, Nat.add_zero] at cC
                  have fC := HE.out.cntC.free y hyn
                  have hcn : Gr.cnt adj ord y ≤ 256 := by
                    have h7 := List.length_filter_le (fun x => adj x y) ord
                    have h8 := HO.out.1.mcs.short
                    unfold Gr.cnt
                    omega
                  have HE3 : Hid (E1 w0 (wr.setCell ⟨b + 2, y, none⟩ (.int .i64 ((Gr.cnt adj ord y : Int) + 1))) b cg g n (fun v => if v = v0 then true else decide (v ∈ ord)) (fun u => ((Gr.cnt adj ord u + (if u ∈ (nb v0).take (q + 1) then 1 else 0) : Nat) : Int)) (fun v => if v = v0 then (n : Int) - 1 - (i : Int) else rk v)) :=
                    (HE.out.putCnt hyn ((Gr.cnt adj ord y : Int) + 1)).cong (fun _ _ => rfl) (fun u _ => by
                      rw [List.take_add_one, hy]
                      by_cases e : u = y
                      · subst e; simp
                      · simp [e]) (fun _ _ => rfl)
                  obtain ⟨cy, hcy⟩ : ∃ cy, Gr.cnt adj ord y = cy := ⟨_, rfl⟩
                  rw [hcy] at cC hcn HE3
                  clear hcy' hy hnot hcy
                  go_wp2_with fail
                  go_roundg (lN - (q + 1))
                  case measure => omega
                  case rel => exact ⟨q + 1, by omega, rfl, by go_num, HE3.out⟩
                · obtain rfl : q = lN := by omega
                  have HO2 : Hid (Ord adj n (ord ++ [v0]) (fun v => if v = v0 then (n : Int) - 1 - (i : Int) else rk v) ∧ (ord ++ [v0]).length = i + 1) :=
                    ⟨HO.out.1.next hv0 H56.out.1 H56.out.2 (by rw [HO.out.2]), by simp [HO.out.2]⟩
                  have HE3 : Hid (E1 w0 wr b cg g n (fun v => decide (v ∈ ord ++ [v0])) (fun u => (Gr.cnt adj (ord ++ [v0]) u : Int)) (fun v => if v = v0 then (n : Int) - 1 - (i : Int) else rk v)) :=
                    HE.out.cong (fun v _ => by by_cases e : v = v0 <;> simp [e]) (fun u hu => by rw [← HlN.out, List.take_length, cnt_step N ord hv0 u hu]) (fun _ _ => rfl)
                  go_wp2_with fail
                  go_roundg (n - (i + 1))
                  case measure => omega
                  case rel => exact ⟨i + 1, ord ++ [v0], _, by omega, rfl, by go_num, HO2.out, HE3.out⟩
        · obtain rfl : i = n := by omega
          go_wp2_with fail
          go_meet
          exact ⟨ord, rk, HO.out, HE.out⟩
  case rest =>
    as_aux_lemma =>
      clear HE0
      obtain ⟨ord, rk, HO, HE⟩ := hcut
      have hsz := HE.out.size
      have hmk := run_make_row' (P := Ybaf.prog) 36 23 (.slice none 0 0) 24 Ybaf.underlying36 Ybaf.info23 rfl .i64 .i64 n (by omega) (by omega)
      have c1 := HE.out.box
      have cst := (Fr.alloc wc (.cells (madeCells #[.slice none 0 0] n) 23) (fun _ => False)).cell HE.out.cl (fun e => e)
      have fst := ((Fr.alloc wc (.cells (madeCells #[.slice none 0 0] n) 23) (fun _ => False)).frozenAt (a := ⟨cg, 2, none⟩) (by show cg < _; omega) (fun e => e)).trans (HE.out.fz 2)
      go_upto_region 23 with fail
      go_region
      have HE2 := hide (e2_start HE.out)
      clear HE cst fst c1 hmk
      go_wp2_with fail
      go_loopg [97] n (fun gk s97 wr => ∃ (v : Nat) (Ks : List (List Nat)), v ≤ n ∧ gk = n - v ∧ s97 = .int .i64 (v : Int) ∧ Hid (Ks.length = v ∧ ∀ K ∈ Ks, K.length ≤ n ∧ ∀ x ∈ K, x < n) ∧ Hid (∃ top, E2 w0 wr b cg g n (b + 4) rk Ks top))
      case atStart => exact ⟨0, [], Nat.zero_le _, rfl, rfl, ⟨rfl, fun K h => by simp at h⟩, _, HE2.out.drewN 1⟩
      case round =>
        clear HE2 hsz
        obtain ⟨v, Ks, hv', rfl, rfl, HK, HEt⟩ := hrel
        have HE : Hid (E2 w0 wr b cg g n (b + 4) rk Ks wr.heap.size) := by
          obtain ⟨top, h⟩ := HEt.out
          exact h.raise h.size.2 (Nat.le_refl _)
        clear HEt
        by_cases hvn : v < n
        · have hl1 : (v : Int) < (n : Int) := by omega
          obtain ⟨B0, hB0⟩ : ∃ B0, wr.heap.size = B0 := ⟨_, rfl⟩
          rw [hB0] at HE
          have hB0l : b + 4 < B0 := HE.out.size.1
          have HEa := hide (HE.out.fr (Fr.alloc wr (.cells #[.int .i64 (v : Int)] 3) (fun _ => False)) (fun _ e => e.elim))
          have HOa : Hid (Own (wr.alloc (.cells #[.int .i64 (v : Int)] 3)) B0 B0 1 (clq nb rk v 0)) := by
            have := own_one wr v
            rw [hB0] at this
            rw [clq_zero]
            exact this
          have HSz : Hid (B0 ≤ (wr.alloc (.cells #[.int .i64 (v : Int)] 3)).heap.size) := by
            show _ ≤ _
            simp; omega
          have c5 := HEa.out.box
          have c6 := HEa.out.lab
          obtain ⟨lN, hlN⟩ : ∃ lN, (nb v).length = lN := ⟨_, rfl⟩
          have hlNn : lN ≤ 256 := by have := N.short hvn; omega
          have HlN := hide hlN
          clear hlN
          go_upto_region 28 with fail
          generalize wr.alloc (.cells #[.int .i64 (v : Int)] 3) = W at HEa HOa HSz c5 c6 ⊢
          go_upto_block 8 with (first | (go_at_call 7; refine (neighbours_far (w0 := w0) g n nb v hvn _ HG.out HEa.out.below).mono ?_; rintro e w' ⟨⟨aN, cN, rfl, HNc⟩, rfl⟩; rw [HlN.out]) | fail)
          have HNc2 := hide HNc
          clear HNc c5 c6 HE
          go_cut [12] (fun s12 wx => ∃ (ρ c M : Nat), s12 = .slice (some ⟨ρ, 0, none⟩) M c ∧ Hid (M = (clq nb rk v lN).length) ∧ Hid (Own wx B0 ρ c (clq nb rk v lN)) ∧ Hid (E2 w0 wx b cg g n (b + 4) rk Ks B0))
          case first =>
            as_aux_lemma =>
              go_wp2_with fail
              go_loopg [12, 109] lN (fun gk s12 s109 wr => ∃ (q ρ c M : Nat), q ≤ lN ∧ gk = lN - q ∧ s12 = .slice (some ⟨ρ, 0, none⟩) M c ∧ s109 = .int .i64 (q : Int) ∧ Hid (M = (clq nb rk v q).length) ∧ Hid (B0 ≤ wr.heap.size) ∧ Hid (Own wr B0 ρ c (clq nb rk v q)) ∧ Hid (E2 w0 wr b cg g n (b + 4) rk Ks B0))
              case atStart => exact ⟨0, B0, 1, 1, Nat.zero_le _, rfl, rfl, rfl, by show _ = _; rw [clq_zero]; rfl, HSz.out, HOa.out, HEa.out⟩
              case round =>
                clear HOa HEa HSz
                obtain ⟨q, ρ, c, M, hq, rfl, rfl, rfl, HM, HSz, HOw, HE⟩ := hrel
                by_cases hql : q < lN
                · have hl2 : (q : Int) < (lN : Int) := by omega
                  obtain ⟨y, hy⟩ : ∃ y, (nb v)[q]? = some y := ⟨(nb v)[q]'(by rw [HlN.out]; exact hql), List.getElem?_eq_getElem _⟩
                  have hyn := ((N.iff v y hvn).1 (List.mem_of_getElem? hy)).1
                  have hyz : (y : Int) < (n : Int) := by omega
                  obtain ⟨bN, rfl, hcy'⟩ := HNc2.out q y hy
                  have cY : wr.cell? ⟨bN, q, none⟩ = some (.int .i64 (y : Int)) := cell_later HE.out.below hcy'
                  have c1 := HE.out.box
                  have c2 := HE.out.rank
                  have c3 := HE.out.rkC.cell y hyn
                  have c4 := HE.out.rkC.cell v hvn
                  have Hy := hide hy
                  have hM256 : M ≤ 256 := by
                    rw [HM.out]
                    have := (clq_short E N rk hvn q).1
                    omega
                  obtain ⟨ry, hry⟩ : ∃ ry, rk y = ry := ⟨_, rfl⟩
                  obtain ⟨rv, hrv⟩ : ∃ rv, rk v = rv := ⟨_, rfl⟩
                  rw [hry] at c3
                  rw [hrv] at c4
                  have Hry := hide hry
                  have Hrv := hide hrv
                  clear hcy' hy hry hrv
                  by_cases hgt : rv < ry
                  · go_upto_region 31 with fail
                    go_quiet (fail)
                    have HX := hide (HE.out.drewN nq)
                    have HOX : Hid (Own (wr.drewN nq) B0 ρ c (clq nb rk v q)) := ⟨HOw.out.own⟩
                    have hszX : B0 ≤ (wr.drewN nq).heap.size := HSz.out
                    clear c1 c2 c3 c4 cY HE HOw HSz
                    generalize wr.drewN nq = X at HX HOX hszX ⊢
                    have H1 : ∀ o, (X.alloc o).ownsRow B0 3 1 (.slice (some ⟨ρ, 0, none⟩) M c) M (ints (clq nb rk v q)) := fun o => by
                      have h0 := HOX.out.own
                      rw [← HM.out] at h0
                      exact h0.alloc o
                    go_wp2_with (first | (at_builtin; refine wpList_append_own_at _ rfl (.tmp 128) (.tmp 130) 23 rfl B0 3 i0 (.int .i64 0) 1 8 Ybaf.underlying23 hi hz0 hz1 hz2 rfl (by decide) (.slice (some ⟨ρ, 0, none⟩) M c) M (ints (clq nb rk v q)) rfl (H1 _) ⟨X.heap.size, 0, none⟩ 1 1 [.int .i64 (y : Int)] rfl rfl (one_at X y 3) (by intro u hu; simp at hu; subst hu; rfl) (by unfold maxLen; omega) (by omega) (by simp; omega) ?_; intro v1 w1 hown1 hgr1 hnil1 hat1; rw [HM.out] at hown1; obtain ⟨ρ1, c1, M1, rfl, HM1, hrow1, hatp⟩ := own_next hown1 hnil1 hat1) | fail)
                    have hρB := (HOX.out.own.lt ρ rfl).1
                    have HEn := hide (HX.out.fr ((Fr.alloc X (.cells #[.int .i64 (y : Int)] 3) (fun x => x = ρ)).trans (Fr.grown hgr1 (fun x => x = ρ) (fun x e => by injection e with e; exact e.symm)) (fun _ _ e => e)) (fun x e => by omega))
                    go_roundg (lN - (q + 1))
                    case measure => omega
                    case rel => exact ⟨q + 1, ρ1, c1, M1, by omega, rfl, rfl, by go_num, by show _ = _; rw [HM1.out, clq_yes Hy.out (by rw [Hry.out, Hrv.out]; exact hgt)], by show _ ≤ _; have := hgr1.size; simp at this; omega, by rw [clq_yes Hy.out (by rw [Hry.out, Hrv.out]; exact hgt)]; exact hrow1, HEn.out⟩
                  · go_upto_region 31 with fail
                    go_quiet (fail)
                    have HX := hide (HE.out.drewN nq)
                    have HOX : Hid (Own (wr.drewN nq) B0 ρ c (clq nb rk v q)) := ⟨HOw.out.own⟩
                    go_wp2_with fail
                    go_roundg (lN - (q + 1))
                    case measure => omega
                    case rel => exact ⟨q + 1, ρ, c, M, by omega, rfl, rfl, by go_num, by show _ = _; rw [HM.out, clq_no Hy.out (by rw [Hry.out, Hrv.out]; omega)], HSz.out, by rw [clq_no Hy.out (by rw [Hry.out, Hrv.out]; omega)]; exact HOX.out, HX.out⟩
                · obtain rfl : q = lN := by omega
                  go_wp2_with fail
                  go_meet
                  exact ⟨ρ, c, M, rfl, HM.out, HOw.out, HE.out⟩
          case rest =>
            as_aux_lemma =>
              clear HOa HEa HSz
              obtain ⟨ρ, c, M, rfl, HM, HOw, HE⟩ := hcut
              have hMn : M ≤ n := by rw [HM.out]; exact (clq_short E N rk hvn lN).1
              have hM1 : 1 ≤ M := by rw [HM.out]; simp [clq]
              have hMc : M ≤ c := by
                have := HOw.out.own
                rcases this.2 with ⟨e, _⟩ | ⟨g', cap, cur, e, _, _, h7, _⟩
                · cases e
                · injection e with _ _ e3
                  rw [HM.out, e3]; exact h7
              obtain ⟨m, rfl⟩ : ∃ m, M = m + 1 := ⟨M - 1, by omega⟩
              obtain ⟨c0, rfl⟩ : ∃ c0, c = c0 + 1 := ⟨c - 1, by omega⟩
              have hm256 : m ≤ 256 := by omega
              have hmc : (m : Int) ≤ (c0 : Int) := by omega
              clear hM1 hMc
              go_upto_if 135 with fail
              go_cut [15] (fun _ wx => Hid (Own wx B0 ρ (c0 + 1) (clq nb rk v lN)) ∧ Hid (E2 w0 wx b cg g n (b + 4) rk Ks B0))
              case first =>
                as_aux_lemma =>
                  by_cases hm2 : 1 < m
                  · have hm2z : (1 : Int) < (m : Int) := by omega
                    have hf : ∀ j, j < m → ∃ u, (clq nb rk v lN)[j + 1]? = some u ∧ u < n ∧ wc.cell? ⟨ρ, 1 + j, none⟩ = some (.int .i64 (u : Int)) := fun j hj => by
                      have hl : j + 1 < (clq nb rk v lN).length := by rw [← HM.out]; omega
                      refine ⟨(clq nb rk v lN)[j + 1], List.getElem?_eq_getElem hl, (clq_short E N rk hvn lN).2 _ (List.getElem_mem hl), ?_⟩
                      rw [Nat.add_comm]
                      exact HOw.out.cell (List.getElem?_eq_getElem hl)
                    obtain ⟨f, hf2⟩ : ∃ f : Nat → Nat, ∀ j, j < m → (clq nb rk v lN)[j + 1]? = some (f j) ∧ f j < n ∧ wc.cell? ⟨ρ, 1 + j, none⟩ = some (.int .i64 (f j : Int)) :=
                      ⟨fun j => (clq nb rk v lN)[j + 1]?.getD 0, fun j hj => by
                        obtain ⟨u, h7, h8, h9⟩ := hf j hj
                        simp only [h7, Option.getD_some]
                        exact ⟨trivial, h8, h9⟩⟩
                    have Hf2 := hide hf2
                    have HMin := hide (minfunc_any b cg (b + 3) n rk ρ 1 m c0 f wc (fun j hj => (hf2 j hj).2.1) (by omega) hm256 HE.out.box HE.out.rank HE.out.rkC.cell (fun j hj => (hf2 j hj).2.2))
                    clear hf hf2
                    go_upto_block 10 with (first | (go_at_call 17; refine HMin.out.mono ?_; rintro e w' ⟨⟨jp, hjp, rfl⟩, qd, rfl⟩) | fail)
                    have HEd := hide (HE.out.drewN qd)
                    have HOd : Hid (Own (wc.drewN qd) B0 ρ (c0 + 1) (clq nb rk v lN)) := ⟨HOw.out.own⟩
                    clear HE HOw HMin
                    generalize wc.drewN qd = X at HEd HOd ⊢
                    go_wp2_with fail
                    go_loopg [143] m (fun gk s143 wr => ∃ q : Nat, q ≤ m ∧ gk = m - q ∧ s143 = .int .i64 (q : Int) ∧ Hid (Own wr B0 ρ (c0 + 1) (clq nb rk v lN)) ∧ Hid (E2 w0 wr b cg g n (b + 4) rk Ks B0))
                    case atStart => exact ⟨0, Nat.zero_le _, rfl, rfl, HOd.out, HEd.out⟩
                    case round =>
                      clear HOd HEd
                      obtain ⟨q, hq, rfl, rfl, HOw, HE⟩ := hrel
                      by_cases hql : q < m
                      · have hl2 : (q : Int) < (m : Int) := by omega
                        have c1 : wr.cell? ⟨ρ, 1 + q, none⟩ = some (.int .i64 (f q : Int)) := by
                          rw [Nat.add_comm]
                          exact HOw.out.cell (Hf2.out q hql).1
                        have c2 := HE.out.box
                        by_cases hne : f q = f jp
                        · have hez : (f q : Int) = (f jp : Int) := by omega
                          clear hne
                          go_wp2_with fail
                          go_roundg (m - (q + 1))
                          case measure => omega
                          case rel => exact ⟨q + 1, by omega, rfl, by go_num, HOw.out, HE.out⟩
                        · have hez : (f q : Int) ≠ (f jp : Int) := by omega
                          have hmem : f jp ∈ nb (f q) := by
                            have h7 := clq_get (Hf2.out q hql).1
                            have h8 := clq_get (Hf2.out jp hjp).1
                            exact HO.out.1.clique HO.out.2 E N hvn h7.1 h8.1 h7.2 h8.2 hne
                          have HA := hide (adjacent2_any (w0 := w0) cg g n nb Hsort.out (fun x hx => by have := N.short hx; omega) (f q) (f jp) (Hf2.out q hql).2.1 hmem wr HG.out HE.out.below HE.out.lab)
                          clear hne hmem
                          go_wp2_with (first | (go_at_call 19; refine HA.out.mono ?_; rintro e w' ⟨rfl, qa, rfl⟩) | fail)
                          have HEd := hide (HE.out.drewN qa)
                          have HOd : Hid (Own (wr.drewN qa) B0 ρ (c0 + 1) (clq nb rk v lN)) := ⟨HOw.out.own⟩
                          go_roundg (m - (q + 1))
                          case measure => omega
                          case rel => exact ⟨q + 1, by omega, rfl, by go_num, HOd.out, HEd.out⟩
                      · obtain rfl : q = m := by omega
                        go_wp2_with fail
                        go_meet
                        exact ⟨HOw.out, HE.out⟩
                  · have hm2z : ¬ (1 : Int) < (m : Int) := by omega
                    go_wp2_with fail
                    go_meet
                    exact ⟨HOw.out, HE.out⟩
              case rest =>
                as_aux_lemma =>
                  clear HOw HE
                  obtain ⟨HOw, HE⟩ := hcut
                  have HEp := hide (HE.out.put hvn HK.out.1 HOw.out hB0l)
                  rw [← HM.out] at HEp
                  have c1 := HE.out.box
                  have c2 := HE.out.cl
                  obtain ⟨⟨x3, c3⟩, f3⟩ := HE.out.rows v hvn
                  have HK2 : Hid ((Ks ++ [clq nb rk v lN]).length = v + 1 ∧ ∀ K ∈ Ks ++ [clq nb rk v lN], K.length ≤ n ∧ ∀ x ∈ K, x < n) := by
                    refine ⟨by simp [HK.out.1], fun K hm => ?_⟩
                    rcases List.mem_append.1 hm with e | e
                    · exact HK.out.2 K e
                    · simp at e
                      subst e
                      exact clq_short E N rk hvn lN
                  go_upto_region 43 with fail
                  clear c1 c2 c3 f3 HE HOw
                  generalize wc.setCell ⟨b + 4, v, none⟩ (.slice (some ⟨ρ, 0, none⟩) (m + 1) (c0 + 1)) = X at HEp ⊢
                  have c4 := HEp.out.box
                  obtain ⟨z, c5⟩ := HEp.out.wid
                  have f5 := HEp.out.fz 3
                  go_region
                  all_goals
                    go_wp2_with fail
                    go_roundg (n - (v + 1))
                    case measure => omega
                    case rel => exact ⟨v + 1, _, by omega, rfl, by go_num, HK2.out, _, (HEp.out.putW _).drewN 1⟩
        · obtain rfl : v = n := by omega
          go_wp2_with fail
          go_ret
          obtain ⟨hKl, hKs⟩ := HK.out
          refine ⟨rfl, Ks, ⟨HE.out.lab, ⟨b + 4, v, HE.out.cl, fun k K hk => ?_⟩, hKl, fun K hm => (hKs K hm).2, fun K hm => (hKs K hm).1⟩, HE.out.below⟩
          obtain ⟨b', c', _, _, h7, h8⟩ := HE.out.ks k K hk
          exact ⟨b', c', h7, h8⟩
end Go.Proofs.YbulkbmsFmt
