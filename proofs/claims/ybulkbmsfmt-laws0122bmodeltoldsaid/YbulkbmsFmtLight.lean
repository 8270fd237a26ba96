import Derived.Test.YbulkbmsFmtLightP
import Derived.Deep.CutBlock
namespace Go.Proofs.YbulkbmsFmt
open Go.RowKit

set_option maxRecDepth 100000 in
set_option maxHeartbeats 4000000 in
theorem lightest_any (w : World) (cg g n : Nat) (adj : Nat → Nat → Bool) (nb : Nat → List Nat) (hG : GraphAt w g n nb) (N : Gr.Nbs adj nb n) (Ks : List (List Nat)) (hC : ChAt w cg g n Ks) (wb cW : Nat) (wt : Nat → Int)
    (hW : ∀ v, v < n → w.cell? ⟨wb, v, none⟩ = some (.int .i64 (wt v))) (hwf : ∀ v, v < n → wrap64 (wt v) = wt v) (hn : n ≤ 256) (h0 : 0 < n) (F : (Nat → Bool) → Nat → Int)
    (hF : ∀ K ∈ Ks, ∀ x, x < n → ∀ L, Gr.IsReach adj (Gr.but (inl K) x) x L → wrap64 (Gr.isum wt L) = F (inl K) x) :
    Calls Ybaf.prog 6 #[.pointer (some ⟨cg, 0, none⟩), .slice (some ⟨wb, 0, none⟩) n cW] w fun e w' => ∃ (B c : Nat), e = .returned (.slice (some ⟨B, 0, none⟩) n c) ∧ (∀ x, x < n → w'.cell? ⟨B, x, none⟩ = some (.int .i64 (minF F Ks x))) ∧ Below w.heap.size w w' := by
  obtain ⟨i0, hi, hz0, hz1, hz2⟩ := info_parts Ybaf.info3
  obtain ⟨b, hb⟩ : ∃ b, w.heap.size = b := ⟨_, rfl⟩
  have HG := hide hG
  have HC := hide hC
  have HW := hide hW
  have Hwf := hide hwf
  have HF := hide hF
  have hlab := hC.lab
  have hmk := run_make_row' (P := Ybaf.prog) 23 3 (.int .i64 0) 8 Ybaf.underlying23 Ybaf.info3 rfl .i64 .i64 n (by omega) (by omega)
  have hmb := run_make_row' (P := Ybaf.prog) 34 4 (.bool false) 1 Ybaf.underlying34 Ybaf.info4 rfl .i64 .i64 n (by omega) (by omega)
  have hmr := make_room n hn
  clear hG hC hW hwf hF
  go_enter Ybaf.func6, Ybaf.ntmps6
  go_upto_block 0 with (first | (go_at_call 10; refine (vertices2_any cg g n nb _ HG.out hlab).mono ?_; rintro e w' ⟨rfl, rfl⟩) | fail)
  go_cut [35] (fun _ wx => wx.heap.size = b + 1 ∧ Hid (Nums wx b n (fun _ => 9223372036854775807) ∧ Below b w wx))
  case first =>
    as_aux_lemma =>
      have HN := hide (nums_made w n)
      rw [hb] at HN
      have HB0 : Hid (Below b w (w.alloc (.cells (madeCells #[.int .i64 0] n) 3))) := (Below.refl b w).alloc (by omega) _
      go_wp2_with fail
      go_loopg [35] n (fun gk s35 wr => ∃ v : Nat, v ≤ n ∧ gk = n - v ∧ s35 = .int .i64 (v : Int) ∧ Hid (wr.heap.size = b + 1) ∧ Hid (Nums wr b n (fun u => if u < v then 9223372036854775807 else 0) ∧ Below b w wr))
      case atStart => exact ⟨0, Nat.zero_le _, rfl, rfl, by show _ = _; simp [hb], ⟨HN.out.congr (by simp), HB0.out⟩⟩
      case round =>
        obtain ⟨v, hv, rfl, rfl, HS, HR⟩ := hrel
        by_cases hlt : v < n
        · have hl1 : (v : Int) < (n : Int) := by omega
          have c1 := HR.out.1.cell v hlt
          have f1 := HR.out.1.free v hlt
          have HR2 : Hid (Nums (wr.setCell ⟨b, v, none⟩ (.int .i64 9223372036854775807)) b n (fun u => if u < v + 1 then 9223372036854775807 else 0) ∧ Below b w (wr.setCell ⟨b, v, none⟩ (.int .i64 9223372036854775807))) :=
            ⟨(HR.out.1.set hlt 9223372036854775807).congr (fun u _ => by by_cases e : u = v; simp [e]; by_cases e2 : u < v; simp [e, e2, show u < v + 1 by omega]; simp [e, e2, show ¬ u < v + 1 by omega]), HR.out.2.setCell (p := ⟨b, v, none⟩) (Nat.le_refl _) _⟩
          go_wp2_with fail
          go_roundg (n - (v + 1))
          case measure => omega
          case rel => exact ⟨v + 1, by omega, rfl, by go_num, by show _ = _; simpa using HS.out, HR2.out⟩
        · obtain rfl : v = n := by omega
          go_wp2_with fail
          go_meet
          exact ⟨HS.out, HR.out.1.congr (fun u hu => by simp [hu]), HR.out.2⟩
  case rest =>
    as_aux_lemma =>
      obtain ⟨hsz, HR⟩ := hcut
      have HLt := hide (lt_start hn hb hsz HR.out.1 HR.out.2)
      obtain ⟨bK, cK, hcl, hrowsK⟩ := HC.out.cl
      have HrowsK := hide hrowsK
      have hclW := hide hcl
      clear hrowsK hcl
      go_upto_region 14 with fail
      generalize (((((wc.alloc (Obj.cells (madeCells #[Value.bool false] n) 4)).alloc (Obj.cells (madeCells #[Value.bool false] n) 4)).alloc (Obj.cells (madeCells #[Value.int IntKind.i64 0] n) 3)).alloc (Obj.cells (madeCells #[Value.int IntKind.i64 0] n) 3)).alloc (Obj.cells (madeCells #[Value.int IntKind.i64 0] n) 3)).alloc (Obj.cells (madeCells #[Value.int IntKind.i64 0] n) 3) = W0 at HLt ⊢
      have hcl0 : W0.cell? ⟨cg, 2, none⟩ = some (.slice (some ⟨bK, 0, none⟩) n cK) := cell_later (by have := HLt.out.below; rw [hb]; exact this) hclW.out
      go_wp2_with fail
      clear hcl0 hmk hmb hmr
      simp only [Nat.add_assoc, Nat.reduceAdd]
      go_loopg [11, 13, 59] n (fun gk s11 s13 s59 wr => ∃ (k ρs cs Ms ρr cr Mr : Nat) (seen : Nat → Bool) (of : Nat → Nat) (cnt : Nat → Int) (S : List Int) (R : List Nat), k ≤ n ∧ gk = n - k ∧ s11 = .slice (some ⟨ρs, 0, none⟩) Ms cs ∧ s13 = .slice (some ⟨ρr, 0, none⟩) Mr cr ∧ s59 = .int .i64 (k : Int) ∧ Hid (Lt w wr b n (minF F (Ks.take k)) (fun _ => false) seen of cnt ρs cs S ρr cr R))
      case atStart => exact ⟨0, b + 4, n, 0, b + 6, n, 0, _, _, _, _, _, Nat.zero_le _, rfl, rfl, rfl, rfl, HLt.out.cong (by simp [minF]) (fun _ _ => rfl) (fun _ _ => rfl) rfl⟩
      case round =>
        clear HLt
        obtain ⟨k, ρs, cs, Ms, ρr, cr, Mr, seen, of, cnt, S, R, hk, rfl, rfl, rfl, rfl, HL⟩ := hrel
        by_cases hkn : k < n
        · have hl1 : (k : Int) < (n : Int) := by omega
          obtain ⟨K, hK⟩ : ∃ K, Ks[k]? = some K := ⟨Ks[k]'(by rw [HC.out.len]; exact hkn), List.getElem?_eq_getElem (by rw [HC.out.len]; exact hkn)⟩
          have hKm := List.mem_of_getElem? hK
          obtain ⟨bk, ck, hck0, hKcells0⟩ := HrowsK.out k K hK
          have hck := HL.out.far hck0
          have HKc := hide hKcells0
          have hKl := HC.out.short K hKm
          have HKlt := hide (HC.out.lt K hKm)
          have HK := hide hK
          have HKm := hide hKm
          clear hck0 hKcells0 hK hKm
          obtain ⟨lK, hlK⟩ : ∃ lK, K.length = lK := ⟨_, rfl⟩
          have HlK := hide hlK
          rw [hlK] at hck hKl
          clear hlK
          go_upto_block 4 with fail
          clear hck
          go_cut [17] (fun _ wx => Hid (Lt w wx b n (minF F (Ks.take k)) (inl K) seen of cnt ρs cs S ρr cr R))
          case first =>
            as_aux_lemma =>
              go_wp2_with fail
              go_loopg [65] lK (fun gk s65 wr => ∃ j : Nat, j ≤ lK ∧ gk = lK - j ∧ s65 = .int .i64 (j : Int) ∧ Hid (Lt w wr b n (minF F (Ks.take k)) (inl (K.take j)) seen of cnt ρs cs S ρr cr R))
              case atStart => exact ⟨0, Nat.zero_le _, rfl, rfl, HL.out.cong (fun _ _ => rfl) (fun v _ => by simp [inl]) (fun _ _ => rfl) rfl⟩
              case round =>
                clear HL
                obtain ⟨j, hj, rfl, rfl, HL⟩ := hrel
                by_cases hjl : j < lK
                · have hl2 : (j : Int) < (lK : Int) := by omega
                  have hjK : j < K.length := by rw [HlK.out]; exact hjl
                  obtain ⟨u, hu⟩ : ∃ u, K[j]? = some u := ⟨K[j], List.getElem?_eq_getElem hjK⟩
                  have hun := HKlt.out u (List.mem_of_getElem? hu)
                  have huz : (u : Int) < (n : Int) := by omega
                  have c1 := HL.out.far (HKc.out j u hu)
                  have c2 := HL.out.inC.cell u hun
                  have f2 := HL.out.inC.free u hun
                  have HN := hide (HL.out.putIn hun true)
                  rw [inl_mark K j u hu] at HN
                  clear hu hjK
                  go_wp2_with fail
                  go_roundg (lK - (j + 1))
                  case measure => omega
                  case rel => exact ⟨j + 1, by omega, rfl, by go_num, HN.out⟩
                · obtain rfl : j = lK := by omega
                  go_wp2_with fail
                  go_meet
                  exact HL.out.cong (fun _ _ => rfl) (fun v _ => by rw [← HlK.out, List.take_length]) (fun _ _ => rfl) rfl
          case rest =>
            as_aux_lemma =>
              clear HL
              have HL := hcut
              clear hcut
              obtain ⟨W1, hcp, HL1⟩ := lt_copy HL.out.noSums
              clear HL
              go_upto_block 6 with fail
              go_cut [11, 13] (fun s11 s13 wx => ∃ (ρs cs Ms ρr cr Mr : Nat) (seen : Nat → Bool) (of : Nat → Nat) (css : List (List Nat)) (R : List Nat), Ms ≤ n ∧ s11 = .slice (some ⟨ρs, 0, none⟩) Ms cs ∧ s13 = .slice (some ⟨ρr, 0, none⟩) Mr cr ∧ Hid (Ms = css.length ∧ Gr.Comps adj (inl K) n n seen of css) ∧ Hid (Lt w wx b n (minF F (Ks.take k)) (inl K) seen of cnt ρs cs (css.map fun C => wrap64 (Gr.isum wt C)) ρr cr R))
              case first =>
                as_aux_lemma =>
                  go_wp2_with fail
                  go_loopg [11, 13, 79] n (fun gk s11 s13 s79 wr => ∃ (σ ρs cs Ms ρr cr Mr : Nat) (seen : Nat → Bool) (of : Nat → Nat) (css : List (List Nat)) (R : List Nat), σ ≤ n ∧ gk = n - σ ∧ Ms ≤ σ ∧ s11 = .slice (some ⟨ρs, 0, none⟩) Ms cs ∧ s13 = .slice (some ⟨ρr, 0, none⟩) Mr cr ∧ s79 = .int .i64 (σ : Int) ∧ Hid (Ms = css.length ∧ Gr.Comps adj (inl K) n σ seen of css) ∧ Hid (Lt w wr b n (minF F (Ks.take k)) (inl K) seen of cnt ρs cs (css.map fun C => wrap64 (Gr.isum wt C)) ρr cr R))
                  case atStart => exact ⟨0, ρs, cs, 0, ρr, cr, Mr, inl K, of, [], R, Nat.zero_le _, rfl, Nat.zero_le _, rfl, rfl, rfl, ⟨rfl, Gr.Comps.begin adj (inl K) n of⟩, HL1.out⟩
                  case round =>
                    clear HL1
                    obtain ⟨σ, ρs, cs, Ms, ρr, cr, Mr, seen, of, css, R, hσ, rfl, hMs, rfl, rfl, rfl, HCo, HL⟩ := hrel
                    by_cases hσn : σ < n
                    · have hl2 : (σ : Int) < (n : Int) := by omega
                      have c1 := HL.out.seenC.cell σ hσn
                      cases hsσ : seen σ
                      · rw [hsσ] at c1
                        have Hs := hide hsσ
                        have c2 := HL.out.far hlab
                        clear hsσ
                        go_upto_region 29 with fail
                        clear c1
                        go_region_held3 (fun w' => w'.cell? ⟨cg, 0, none⟩ = some (.pointer (some ⟨g, 0, none⟩))) (first | exact c2 | exact HL2.out.far hlab)
                          (first | (go_at_call 11; refine (comp_light HG.out N hn (HL.out.drewN 1) σ hσn n).mono ?_; rintro e w' ⟨ρ, c, M, f, L, rfl, HM, HL2⟩))
                        clear c2
                        go_upto_block 8 with fail
                        go_cut [19] (fun s19 wx => ∃ Z : Int, s19 = .int .i64 Z ∧ Hid (Z = wrap64 (Gr.isum wt L)) ∧ Hid (Lt w wx b n (minF F (Ks.take k)) (inl K) f (fun v => if v ∈ L then Ms else of v) cnt ρs cs (css.map fun C => wrap64 (Gr.isum wt C)) ρ c L))
                        case first =>
                          as_aux_lemma =>
                            go_wp2_with fail
                            go_loopg [19, 97] M (fun gk s19 s97 wr => ∃ (j : Nat) (Z : Int), j ≤ M ∧ gk = M - j ∧ s19 = .int .i64 Z ∧ s97 = .int .i64 (j : Int) ∧ Hid (Z = wrap64 (Gr.isum wt (L.take j))) ∧ Hid (Lt w wr b n (minF F (Ks.take k)) (inl K) f (fun v => if v ∈ L.take j then Ms else of v) cnt ρs cs (css.map fun C => wrap64 (Gr.isum wt C)) ρ c L))
                            case atStart => exact ⟨0, 0, Nat.zero_le _, rfl, rfl, rfl, by show _ = _; simp [Gr.isum, wrap_zero], HL2.out.cong (fun _ _ => rfl) (fun _ _ => rfl) (fun v _ => by simp) rfl⟩
                            case round =>
                              clear HL2 HL
                              obtain ⟨j, Z, hj, rfl, rfl, rfl, HZ, HL⟩ := hrel
                              have hMn := HM.out.2.1
                              by_cases hjl : j < M
                              · have hl3 : (j : Int) < (M : Int) := by omega
                                obtain ⟨u, hu⟩ : ∃ u, L[j]? = some u := ⟨L[j]'(by rw [← HM.out.1]; exact hjl), List.getElem?_eq_getElem _⟩
                                have hun := HM.out.2.2.2.1 u (List.mem_of_getElem? hu)
                                have huz : (u : Int) < (n : Int) := by omega
                                have c1 := HL.out.reached.cell hu
                                have c2 := HL.out.ofC.cell u hun
                                have f2 := HL.out.ofC.free u hun
                                have c3 := HL.out.far (HW.out u hun)
                                have HN := hide (HL.out.putOf hun Ms)
                                have c4 := HN.out.far (HW.out u hun)
                                have HZ2 : Hid (wrap64 (Z + wt u) = wrap64 (Gr.isum wt (L.take (j + 1)))) := by
                                  show _ = _
                                  rw [HZ.out, wrap_add, isum_take wt L j u hu]
                                have HN2 : Hid (Lt w (wr.setCell ⟨b + 3, u, none⟩ (.int .i64 (Ms : Int))) b n (minF F (Ks.take k)) (inl K) f (fun v => if v ∈ L.take (j + 1) then Ms else of v) cnt ρs cs (css.map fun C => wrap64 (Gr.isum wt C)) ρ c L) :=
                                  HN.out.cong (fun _ _ => rfl) (fun _ _ => rfl) (fun v _ => by
                                    rw [List.take_add_one, hu]
                                    by_cases e : v = u <;> simp [e]) rfl
                                clear HN hu
                                go_wp2_with fail
                                go_roundg (M - (j + 1))
                                case measure => omega
                                case rel => exact ⟨j + 1, _, by omega, rfl, rfl, by go_num, HZ2.out, HN2.out⟩
                              · obtain rfl : j = M := by omega
                                go_wp2_with fail
                                go_meet
                                refine ⟨Z, rfl, ?_, ?_⟩
                                · have := HZ.out
                                  rw [HM.out.1, List.take_length] at this
                                  exact this
                                · have := HL.out
                                  rw [HM.out.1, List.take_length] at this
                                  exact this
                        case rest =>
                          as_aux_lemma =>
                            clear HL HL2
                            obtain ⟨Z, rfl, HZ, HL⟩ := hcut
                            have H1 : ∀ o, (wc.alloc o).ownsRow b 3 1 (.slice (some ⟨ρs, 0, none⟩) Ms cs) Ms ((css.map fun C => wrap64 (Gr.isum wt C)).map (Value.int .i64)) := fun o => by
                              have h0 := HL.out.sums.own
                              simp only [List.length_map, ← HCo.out.1] at h0
                              exact h0.alloc o
                            have hbw : b ≤ wc.heap.size := by have := HL.out.size; omega
                            go_wp2_with (first | (at_builtin; refine wpList_append_own_at _ rfl (.tmp 113) (.tmp 115) 23 rfl b 3 i0 (.int .i64 0) 1 8 Ybaf.underlying23 hi hz0 hz1 hz2 rfl (by decide) (.slice (some ⟨ρs, 0, none⟩) Ms cs) Ms ((css.map fun C => wrap64 (Gr.isum wt C)).map (Value.int .i64)) rfl (H1 _) ⟨wc.heap.size, 0, none⟩ 1 1 [.int .i64 Z] rfl rfl (one_at wc Z 3) (by intro u hu; simp at hu; subst hu; rfl) (by unfold maxLen; omega) (by omega) (by simp; omega) ?_; intro v1 w1 hown1 hgr1 hnil1 hat1; have hown2 : w1.ownsRow b 3 1 v1 ((css.map fun C => wrap64 (Gr.isum wt C)).length + 1) ((css.map fun C => wrap64 (Gr.isum wt C)).map (Value.int .i64) ++ [.int .i64 Z]) := (by rw [List.length_map, ← HCo.out.1]; exact hown1); obtain ⟨ρ1, c1, M1, rfl, HM1, hrow1, hatp⟩ := ownZ_next hown2 hnil1 hat1) | fail)
                            have HT := hide (HL.out.pushed hgr1 hrow1 hatp)
                            have HM2 : Hid (M1 = Ms + 1) := by
                              show _ = _
                              rw [HM1.out]
                              simp [HCo.out.1]
                            have hM2 := HM2.out
                            have HCo2 : Hid (M1 = (css ++ [L]).length ∧ Gr.Comps adj (inl K) n (σ + 1) f (fun v => if v ∈ L then Ms else of v) (css ++ [L])) :=
                              ⟨by rw [HM2.out, HCo.out.1]; simp, HCo.out.2.take N.sym (fun a b h => (N.lt a b h).2) hσn Hs.out HM.out.2.2.1 HM.out.2.2.2.1 HM.out.2.2.2.2 (fun v _ => by rw [← HCo.out.1])⟩
                            go_roundg (n - (σ + 1))
                            case measure => omega
                            case rel => exact ⟨σ + 1, ρ1, c1, M1, ρ, c, M, f, _, css ++ [L], L, by omega, rfl, by omega, rfl, rfl, by go_num, HCo2.out, HT.out.cong (fun _ _ => rfl) (fun _ _ => rfl) (fun _ _ => rfl) (by rw [HZ.out]; simp)⟩
                      · rw [hsσ] at c1
                        have Hs := hide hsσ
                        clear hsσ
                        go_wp2_with fail
                        go_roundg (n - (σ + 1))
                        case measure => omega
                        case rel => exact ⟨σ + 1, ρs, cs, Ms, ρr, cr, Mr, seen, of, css, R, by omega, rfl, by omega, rfl, rfl, by go_num, ⟨HCo.out.1, HCo.out.2.skip Hs.out⟩, HL.out⟩
                    · obtain rfl : σ = n := by omega
                      go_wp2_with fail
                      go_meet
                      exact ⟨ρs, cs, Ms, ρr, cr, Mr, seen, of, css, R, hMs, rfl, rfl, HCo.out, HL.out⟩
              case rest =>
                as_aux_lemma =>
                  clear HL1
                  obtain ⟨ρs, cs, Ms, ρr, cr, Mr, seen, of, css, R, hMs, rfl, rfl, HCo, HL⟩ := hcut
                  obtain ⟨W2, hcl, HL2⟩ := lt_clear HL.out Ms hMs
                  clear HL
                  have hMz : (Ms : Int) ≤ (n : Int) := by omega
                  go_upto_block 10 with fail
                  clear hcl hcp
                  go_cut [22] (fun _ wx => Hid (∃ cnt, Lt w wx b n (minF F (Ks.take (k + 1))) (inl K) seen of cnt ρs cs (css.map fun C => wrap64 (Gr.isum wt C)) ρr cr R))
                  case first =>
                    as_aux_lemma =>
                      go_wp2_with fail
                      go_loopg [123] n (fun gk s123 wr => ∃ (x : Nat) (cnt : Nat → Int), x ≤ n ∧ gk = n - x ∧ s123 = .int .i64 (x : Int) ∧ Hid (∀ c, c < Ms → cnt c ≤ x) ∧ Hid (Lt w wr b n (fun y => if y < x then minF F (Ks.take (k + 1)) y else minF F (Ks.take k) y) (inl K) seen of cnt ρs cs (css.map fun C => wrap64 (Gr.isum wt C)) ρr cr R))
                      case atStart => exact ⟨0, _, Nat.zero_le _, rfl, rfl, fun c hc => by simp [hc], HL2.out.cong (fun _ _ => by simp) (fun _ _ => rfl) (fun v _ => rfl) rfl⟩
                      case round =>
                        clear HL2
                        obtain ⟨x, cnt, hx, rfl, rfl, Hcn, HL⟩ := hrel
                        by_cases hxn : x < n
                        · have hl2 : (x : Int) < (n : Int) := by omega
                          have c1 := HL.out.inC.cell x hxn
                          obtain ⟨m0, hm0⟩ : ∃ m0, minF F (Ks.take k) x = m0 := ⟨_, rfl⟩
                          have cL : wr.cell? ⟨b, x, none⟩ = some (.int .i64 m0) := by
                            have := HL.out.least.cell x hxn
                            rw [if_neg (by omega), hm0] at this
                            exact this
                          have fL := HL.out.least.free x hxn
                          have HPut : ∀ z, z = F (inl K) x → ∀ (w' : World) (cnt' : Nat → Int), Lt w w' b n (fun y => if y < x then minF F (Ks.take (k + 1)) y else minF F (Ks.take k) y) (inl K) seen of cnt' ρs cs (css.map fun C => wrap64 (Gr.isum wt C)) ρr cr R →
                              Hid (Lt w (w'.setCell ⟨b, x, none⟩ (.int .i64 (least2 m0 z))) b n (fun y => if y < x + 1 then minF F (Ks.take (k + 1)) y else minF F (Ks.take k) y) (inl K) seen of cnt' ρs cs (css.map fun C => wrap64 (Gr.isum wt C)) ρr cr R) := fun z hz w' cnt' h => by
                            refine (h.putLeast hxn (least2 m0 z)).cong (fun v _ => ?_) (fun _ _ => rfl) (fun _ _ => rfl) rfl
                            by_cases e : v = x
                            · subst e
                              rw [if_pos rfl, if_pos (by omega), minF_next F Ks v k K HK.out, hm0, hz]
                            · by_cases e2 : v < x
                              · simp [e, e2, show v < x + 1 by omega]
                              · simp [e, e2, show ¬ v < x + 1 by omega]
                          have HPut2 := hide HPut
                          have Hm0 := hide hm0
                          clear HPut hm0
                          cases hxK : inl K x
                          · rw [hxK] at c1
                            obtain ⟨C, hC, hR⟩ := HCo.out.2.outside hxn hxK
                            have hoM : of x < Ms := by rw [HCo.out.1]; exact (List.getElem?_eq_some_iff.1 hC).1
                            have hoz : (of x : Int) < (Ms : Int) := by omega
                            have cO := HL.out.ofC.cell x hxn
                            have cS : wr.cell? ⟨ρs, of x, none⟩ = some (.int .i64 (wrap64 (Gr.isum wt C))) := HL.out.sums.cell (by simp [hC])
                            have hFx := HF.out K HKm.out x hxn C hR
                            obtain ⟨z0, hz0'⟩ : ∃ z0, wrap64 (Gr.isum wt C) = z0 := ⟨_, rfl⟩
                            rw [hz0'] at cS hFx
                            have HFx := hide hFx
                            obtain ⟨o0, ho0⟩ : ∃ o0, of x = o0 := ⟨_, rfl⟩
                            rw [ho0] at cS cO hoM hoz
                            clear hz0' ho0 hC hR hFx hxK
                            go_upto_region 43 with fail
                            go_region
                            go_wp2_with fail
                            · have hzm : z0 < m0 := by assumption
                              have HT := hide ((HPut2.out z0 HFx.out wr cnt HL.out).out.drewN 1)
                              rw [show least2 m0 z0 = z0 from if_pos hzm] at HT
                              go_roundg (n - (x + 1))
                              case measure => omega
                              case rel => exact ⟨x + 1, cnt, by omega, rfl, by go_num, fun c hc => by have := Hcn.out c hc; omega, HT.out⟩
                            · have hzm : ¬ z0 < m0 := by omega
                              have HT := hide ((HPut2.out z0 HFx.out wr cnt HL.out).out.drewN 1)
                              rw [show least2 m0 z0 = m0 from if_neg hzm] at HT
                              go_roundg (n - (x + 1))
                              case measure => omega
                              case rel => exact ⟨x + 1, cnt, by omega, rfl, by go_num, fun c hc => by have := Hcn.out c hc; omega, HT.out⟩
                          · rw [hxK] at c1
                            have cW0 := HL.out.far (HW.out x hxn)
                            have cG := HL.out.far hlab
                            have HxK := hide hxK
                            obtain ⟨lN, hlN⟩ : ∃ lN, (nb x).length = lN := ⟨_, rfl⟩
                            have hlNn : lN ≤ 256 := by have := N.short hxn; omega
                            have HlN := hide hlN
                            clear hxK hlN
                            go_upto_block 12 with (first | (go_at_call 7; refine (neighbours_far (w0 := w) g n nb x hxn _ HG.out (by have := HL.out.below; rw [hb]; exact this)).mono ?_; rintro e w' ⟨⟨aN, cN, rfl, HNc⟩, rfl⟩; rw [HlN.out]) | fail)
                            have HNc2 := hide HNc
                            clear HNc c1 cW0 cG cL fL
                            go_wp2_with fail
                            go_loopg [23, 157] lN (fun gk s23 s157 wr => ∃ (q : Nat) (Z : Int) (cnt : Nat → Int) (ct : Nat → Bool) (A : List Nat), q ≤ lN ∧ gk = lN - q ∧ s23 = .int .i64 Z ∧ s157 = .int .i64 (q : Int) ∧ Hid (Z = wrap64 (wt x + Gr.isum wt A)) ∧ Hid (Gr.Beside nb (inl K) of css x q ct A ∧ (∀ c, c < Ms → (ct c = true ↔ cnt c = (x : Int) + 1)) ∧ ∀ c, c < Ms → cnt c ≤ (x : Int) + 1) ∧ Hid (Lt w wr b n (fun y => if y < x then minF F (Ks.take (k + 1)) y else minF F (Ks.take k) y) (inl K) seen of cnt ρs cs (css.map fun C => wrap64 (Gr.isum wt C)) ρr cr R))
                            case atStart =>
                              exact ⟨0, _, cnt, fun _ => false, [], Nat.zero_le _, rfl, rfl, rfl, by show _ = _; rw [Gr.isum, Int.add_zero, Hwf.out x hxn], ⟨Gr.Beside.begin nb (inl K) of css x, fun c hc => by have := Hcn.out c hc; simp; omega, fun c hc => by have := Hcn.out c hc; omega⟩, HL.out⟩
                            case round =>
                              clear HL Hcn
                              obtain ⟨q, Z, cnt, ct, A, hq, rfl, rfl, rfl, HZ, HBe, HL⟩ := hrel
                              by_cases hql : q < lN
                              · have hl3 : (q : Int) < (lN : Int) := by omega
                                obtain ⟨y, hy⟩ : ∃ y, (nb x)[q]? = some y := ⟨(nb x)[q]'(by rw [HlN.out]; exact hql), List.getElem?_eq_getElem _⟩
                                have hyn := ((N.iff x y hxn).1 (List.mem_of_getElem? hy)).1
                                have hyz : (y : Int) < (n : Int) := by omega
                                obtain ⟨bN, rfl, hcy'⟩ := HNc2.out q y hy
                                have cY : wr.cell? ⟨bN, q, none⟩ = some (.int .i64 (y : Int)) := HL.out.far hcy'
                                have cO := HL.out.ofC.cell y hyn
                                have cI := HL.out.inC.cell y hyn
                                have Hy := hide hy
                                obtain ⟨o1, ho1⟩ : ∃ o1, of y = o1 := ⟨_, rfl⟩
                                have Ho1 := hide ho1
                                rw [ho1] at cO
                                clear hcy' hy ho1
                                cases hyK : inl K y
                                · rw [hyK] at cI
                                  have HyK := hide hyK
                                  obtain ⟨C, hC, _⟩ := HCo.out.2.outside hyn hyK
                                  have hoM : o1 < Ms := by rw [HCo.out.1, ← Ho1.out]; exact (List.getElem?_eq_some_iff.1 hC).1
                                  have hoz : (o1 : Int) < (Ms : Int) := by omega
                                  have hozn : (o1 : Int) < (n : Int) := by omega
                                  have hon : o1 < n := by omega
                                  rw [Ho1.out] at hC
                                  have cS : wr.cell? ⟨ρs, o1, none⟩ = some (.int .i64 (wrap64 (Gr.isum wt C))) := HL.out.sums.cell (by simp [hC])
                                  have cC := HL.out.cntC.cell o1 hon
                                  have fC := HL.out.cntC.free o1 hon
                                  obtain ⟨z0, hz0'⟩ : ∃ z0, wrap64 (Gr.isum wt C) = z0 := ⟨_, rfl⟩
                                  rw [hz0'] at cS
                                  have Hz0 := hide hz0'
                                  have HC2 := hide hC
                                  clear hz0' hC hyK
                                  by_cases hce : cnt o1 = (x : Int) + 1
                                  · rw [hce] at cC
                                    have HBe2 : Hid (Gr.Beside nb (inl K) of css x (q + 1) ct A ∧ (∀ c, c < Ms → (ct c = true ↔ cnt c = (x : Int) + 1)) ∧ ∀ c, c < Ms → cnt c ≤ (x : Int) + 1) :=
                                      ⟨HBe.out.1.skip Hy.out (Or.inr (by rw [Ho1.out]; exact (HBe.out.2.1 o1 hoM).2 hce)), HBe.out.2⟩
                                    clear hce
                                    go_wp2_with fail
                                    go_roundg (lN - (q + 1))
                                    case measure => omega
                                    case rel => exact ⟨q + 1, Z, cnt, ct, A, by omega, rfl, rfl, by go_num, HZ.out, HBe2.out, HL.out⟩
                                  · have HBe2 : Hid (Gr.Beside nb (inl K) of css x (q + 1) (Gr.mark ct o1) (A ++ C) ∧ (∀ c, c < Ms → (Gr.mark ct o1 c = true ↔ (if c = o1 then (x : Int) + 1 else cnt c) = (x : Int) + 1)) ∧ ∀ c, c < Ms → (if c = o1 then (x : Int) + 1 else cnt c) ≤ (x : Int) + 1) := by
                                      refine ⟨?_, fun c hc => ?_, fun c hc => ?_⟩
                                      · have := HBe.out.1.take HCo.out.2 Hy.out HyK.out (by
                                          rw [Ho1.out]
                                          cases e : ct o1
                                          · rfl
                                          · exact absurd ((HBe.out.2.1 o1 hoM).1 e) hce) (by rw [Ho1.out]; exact HC2.out)
                                        rw [Ho1.out] at this
                                        exact this
                                      · unfold Gr.mark
                                        by_cases e : c = o1
                                        · simp [e]
                                        · simp only [if_neg e]; exact HBe.out.2.1 c hc
                                      · by_cases e : c = o1
                                        · simp [e]
                                        · simp only [if_neg e]; exact HBe.out.2.2 c hc
                                    have HN := hide (HL.out.putCnt hon ((x : Int) + 1))
                                    have cS2 := HN.out.sums.cell (j := o1) (u := z0) (by rw [List.getElem?_map, HC2.out]; simp [Hz0.out])
                                    have HZ2 : Hid (wrap64 (Z + z0) = wrap64 (wt x + Gr.isum wt (A ++ C))) := by
                                      show _ = _
                                      rw [HZ.out, ← Hz0.out, wrap_add2, Gr.isum_append, Int.add_assoc]
                                    go_wp2_with fail
                                    go_roundg (lN - (q + 1))
                                    case measure => omega
                                    case rel => exact ⟨q + 1, _, _, _, A ++ C, by omega, rfl, rfl, by go_num, HZ2.out, HBe2.out, HN.out⟩
                                · rw [hyK] at cI
                                  have HBe2 : Hid (Gr.Beside nb (inl K) of css x (q + 1) ct A ∧ (∀ c, c < Ms → (ct c = true ↔ cnt c = (x : Int) + 1)) ∧ ∀ c, c < Ms → cnt c ≤ (x : Int) + 1) :=
                                    ⟨HBe.out.1.skip Hy.out (Or.inl hyK), HBe.out.2⟩
                                  clear hyK
                                  go_wp2_with fail
                                  go_roundg (lN - (q + 1))
                                  case measure => omega
                                  case rel => exact ⟨q + 1, Z, cnt, ct, A, by omega, rfl, rfl, by go_num, HZ.out, HBe2.out, HL.out⟩
                              · obtain rfl : q = lN := by omega
                                have cL : wr.cell? ⟨b, x, none⟩ = some (.int .i64 m0) := by
                                  have := HL.out.least.cell x hxn
                                  rw [if_neg (by omega), Hm0.out] at this
                                  exact this
                                have fL := HL.out.least.free x hxn
                                have HFx : Hid (Z = F (inl K) x) := by
                                  show _ = _
                                  rw [HZ.out]
                                  exact HF.out K HKm.out x hxn (x :: A) (HBe.out.1.over N HCo.out.2 hxn HxK.out (by rw [HlN.out]; exact Nat.le_refl _))
                                go_wp2_with fail
                                · have hzm : Z < m0 := by assumption
                                  have HT := HPut2.out Z HFx.out wr cnt HL.out
                                  rw [show least2 m0 Z = Z from if_pos hzm] at HT
                                  go_roundg (n - (x + 1))
                                  case measure => omega
                                  case rel => exact ⟨x + 1, cnt, by omega, rfl, by go_num, fun c hc => by have := HBe.out.2.2 c hc; omega, HT.out⟩
                                · have hzm : ¬ Z < m0 := by omega
                                  have HT := HPut2.out Z HFx.out wr cnt HL.out
                                  rw [show least2 m0 Z = m0 from if_neg hzm] at HT
                                  go_roundg (n - (x + 1))
                                  case measure => omega
                                  case rel => exact ⟨x + 1, cnt, by omega, rfl, by go_num, fun c hc => by have := HBe.out.2.2 c hc; omega, HT.out⟩
                        · obtain rfl : x = n := by omega
                          go_wp2_with fail
                          go_meet
                          exact ⟨cnt, HL.out.cong (fun y hy => by simp [hy]) (fun _ _ => rfl) (fun v _ => rfl) rfl⟩
                  case rest =>
                    as_aux_lemma =>
                      clear HL2
                      obtain ⟨cnt2, hL3⟩ := hcut.out
                      have HL := hide hL3
                      clear hL3 hcut
                      go_wp2_with fail
                      go_loopg [203] lK (fun gk s203 wr => ∃ j : Nat, j ≤ lK ∧ gk = lK - j ∧ s203 = .int .i64 (j : Int) ∧ Hid (Lt w wr b n (minF F (Ks.take (k + 1))) (fun v => inl K v && !inl (K.take j) v) seen of cnt2 ρs cs (css.map fun C => wrap64 (Gr.isum wt C)) ρr cr R))
                      case atStart => exact ⟨0, Nat.zero_le _, rfl, rfl, HL.out.cong (fun _ _ => rfl) (fun v _ => by simp [inl]) (fun _ _ => rfl) rfl⟩
                      case round =>
                        clear HL
                        obtain ⟨j, hj, rfl, rfl, HL⟩ := hrel
                        by_cases hjl : j < lK
                        · have hl2 : (j : Int) < (lK : Int) := by omega
                          have hjK : j < K.length := by rw [HlK.out]; exact hjl
                          obtain ⟨u, hu⟩ : ∃ u, K[j]? = some u := ⟨K[j], List.getElem?_eq_getElem hjK⟩
                          have hun := HKlt.out u (List.mem_of_getElem? hu)
                          have huz : (u : Int) < (n : Int) := by omega
                          have c1 := HL.out.far (HKc.out j u hu)
                          have c2 := HL.out.inC.cell u hun
                          have f2 := HL.out.inC.free u hun
                          have HN := hide (HL.out.putIn hun false)
                          rw [inl_unmark K j u hu] at HN
                          clear hu hjK
                          go_wp2_with fail
                          go_roundg (lK - (j + 1))
                          case measure => omega
                          case rel => exact ⟨j + 1, by omega, rfl, by go_num, HN.out⟩
                        · obtain rfl : j = lK := by omega
                          go_wp2_with fail
                          go_roundg (n - (k + 1))
                          case measure => omega
                          case rel => exact ⟨k + 1, ρs, cs, Ms, ρr, cr, Mr, seen, of, cnt2, _, R, by omega, rfl, rfl, rfl, by go_num, HL.out.cong (fun _ _ => rfl) (fun v _ => by rw [← HlK.out, List.take_length]; simp) (fun _ _ => rfl) rfl⟩
        · obtain rfl : k = n := by omega
          go_wp2_with fail
          go_ret
          refine ⟨b, k, rfl, fun x hx => ?_, ?_⟩
          · have := HL.out.least.cell x hx
            rw [this, ← HC.out.len, List.take_length]
          · have := HL.out.below
            rw [hb]; exact this
end Go.Proofs.YbulkbmsFmt
