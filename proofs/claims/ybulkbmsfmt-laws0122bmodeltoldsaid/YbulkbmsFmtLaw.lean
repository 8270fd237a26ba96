import Derived.Test.YbulkbmsFmtLawP
import Derived.Deep.CutBlock
namespace Go.Proofs.YbulkbmsFmt
open Go.RowKit

set_option maxRecDepth 100000 in
set_option maxHeartbeats 8000000 in
/-- The law returns true; nothing that lay has turned. -/
theorem law_any (w : World) (aP aW : Option Addr) (lp cP lw cW : Nat) (pv : Nat → Nat) (wv : Nat → Int) (hp : ∀ j, j < lp → ∃ b o, aP = some ⟨b, o, none⟩ ∧ w.cell? ⟨b, o + j, none⟩ = some (.int .u8 (pv j : Int))) (hpv : ∀ j, pv j < 256)
    (hw : ∀ j, j < lw → ∃ b o, aW = some ⟨b, o, none⟩ ∧ w.cell? ⟨b, o + j, none⟩ = some (.int .i64 (wv j))) (hwv : ∀ j, wrap64 (wv j) = wv j) (hlp : lp ≤ 9223372036854775807) (hlw : lw ≤ 9223372036854775807) :
    Calls Ybaf.prog 3 #[.slice aP lp cP, .slice aW lw cW] w fun e w' => e = .returned (.bool true) ∧ Below w.heap.size w w' := by
  by_cases hbig : 255 < lp
  · have hbz : (255 : Int) < (lp : Int) := by omega
    clear hp hw hpv hwv
    go_enter Ybaf.func3, Ybaf.ntmps3
    go_wp2_with fail
    go_ret
    exact ⟨rfl, Below.refl _ _⟩
  · have hbz : ¬ (255 : Int) < (lp : Int) := by omega
    obtain ⟨n, hnl⟩ : ∃ n, lp + 1 = n := ⟨_, rfl⟩
    have hnz : (lp : Int) + 1 = (n : Int) := by omega
    have hn : n ≤ 256 := by omega
    have hn0 : 0 < n := by omega
    have Hp := hide hp
    have Hpv := hide hpv
    have Hw := hide hw
    have Hwv := hide hwv
    obtain ⟨b, hb⟩ : ∃ b, w.heap.size = b := ⟨_, rfl⟩
    obtain ⟨i3, hi3, hz03, hz13, hz23⟩ := info_parts Ybaf.info3
    have hms := run_make_row' (P := Ybaf.prog) 24 9 (.string ⟨#[]⟩) 16 Ybaf.underlying24 Ybaf.info9 rfl .i64 .i64 n (by omega) (by omega)
    clear hp hpv hw hwv
    go_enter Ybaf.func3, Ybaf.ntmps3
    go_upto_block 0 with fail
    clear hms
    go_cut [7] (fun _ wx => Hid (Below b w wx ∧ b < wx.heap.size ∧ ∀ j, j < n → wx.cell? ⟨b, j, none⟩ = some (.string (lab j))))
    case first =>
      as_aux_lemma =>
        have hrow := World.rowIs_made w (.string ⟨#[]⟩) n 9
        rw [hb] at hrow
        have HR0 : Hid ((∀ j, j < n → (w.alloc (.cells (madeCells #[.string ⟨#[]⟩] n) 9)).cell? ⟨b, j, none⟩ = some (.string ⟨#[]⟩)) ∧ (∀ j, j < n → (w.alloc (.cells (madeCells #[.string ⟨#[]⟩] n) 9)).frozen? ⟨b, j, none⟩ = false) ∧ Below b w (w.alloc (.cells (madeCells #[.string ⟨#[]⟩] n) 9)) ∧ b < (w.alloc (.cells (madeCells #[.string ⟨#[]⟩] n) 9)).heap.size) :=
          ⟨fun j hj => hrow.cell hj, fun j _ => hrow.frozen j, (Below.refl b w).alloc (by omega) _, by simp; omega⟩
        clear hrow
        generalize w.alloc (.cells (madeCells #[.string ⟨#[]⟩] n) 9) = W0 at HR0 ⊢
        go_wp2_with fail
        go_loopg [45] n (fun gk s45 wr => ∃ v : Nat, v ≤ n ∧ gk = n - v ∧ s45 = .int .i64 (v : Int) ∧ Hid (Below b w wr ∧ b < wr.heap.size ∧ ∀ j, j < n → (∃ s, wr.cell? ⟨b, j, none⟩ = some (.string s) ∧ (j < v → s = lab j)) ∧ wr.frozen? ⟨b, j, none⟩ = false))
        case atStart => exact ⟨0, Nat.zero_le _, rfl, rfl, HR0.out.2.2.1, HR0.out.2.2.2, fun j hj => ⟨⟨_, HR0.out.1 j hj, fun h => by omega⟩, HR0.out.2.1 j hj⟩⟩
        case round =>
          clear HR0
          obtain ⟨v, hv, rfl, rfl, HR⟩ := hrel
          by_cases hvn : v < n
          · have hl1 : (v : Int) < (n : Int) := by omega
            obtain ⟨⟨s0, c0, _⟩, f0⟩ := HR.out.2.2 v hvn
            have hHl := HR.out.2.1
            go_wp2_with (first | (go_at_call 4; refine (label_any v (by omega) _).mono ?_; rintro e w' ⟨rfl, o, hw'⟩; have kO : Fr wr w' (fun _ => False) := (by rw [hw']; exact Fr.alloc wr o _); have KO := hide kO; have c1 := kO.cell c0 (fun e => e); have f1 := (kO.frozenAt (a := ⟨b, v, none⟩) hHl (fun e => e)).trans f0; clear hw' kO c0 f0) | fail)
            have HR2 : Hid (Below b w (w'.setCell ⟨b, v, none⟩ (.string (lab v))) ∧ b < (w'.setCell ⟨b, v, none⟩ (.string (lab v))).heap.size ∧ ∀ j, j < n → (∃ s, (w'.setCell ⟨b, v, none⟩ (.string (lab v))).cell? ⟨b, j, none⟩ = some (.string s) ∧ (j < v + 1 → s = lab j)) ∧ (w'.setCell ⟨b, v, none⟩ (.string (lab v))).frozen? ⟨b, j, none⟩ = false) := by
              have hbs := HR.out.1.size
              have hks := KO.out.size
              refine ⟨(HR.out.1.trans (KO.out.below (by omega) (fun _ e => e.elim))).setCell (p := ⟨b, v, none⟩) (Nat.le_refl _) _, by simp; omega, fun j hj => ?_⟩
              obtain ⟨⟨s, h1, h2⟩, h3⟩ := HR.out.2.2 j hj
              refine ⟨?_, ?_⟩
              · by_cases e : j = v
                · subst e
                  exact ⟨lab j, World.cell?_setCell_same _ _ _ c1, fun _ => rfl⟩
                · refine ⟨s, ?_, fun h => h2 (by omega)⟩
                  rw [World.cell?_setCell_other _ _ _ _ (by intro e2; injection e2 with _ e2 _; omega)]
                  exact KO.out.cell h1 (fun e => e)
              · rw [World.frozen?_setCell]
                exact (KO.out.frozenAt (a := ⟨b, j, none⟩) hHl (fun e => e)).trans h3
            go_roundg (n - (v + 1))
            case measure => omega
            case rel => exact ⟨v + 1, by omega, rfl, by go_num, HR2.out⟩
          · obtain rfl : v = n := by omega
            go_wp2_with fail
            go_meet
            refine ⟨HR.out.1, HR.out.2.1, fun j hj => ?_⟩
            obtain ⟨⟨s, h1, h2⟩, _⟩ := HR.out.2.2 j hj
            rw [h1, h2 hj]
    case rest =>
      as_aux_lemma =>
        have HL := hcut
        have hmk := run_make_row' (P := Ybaf.prog) 23 3 (.int .i64 0) 8 Ybaf.underlying23 Ybaf.info3 rfl .i64 .i64 n (by omega) (by omega)
        obtain ⟨Ce, curE, hme, hcs, hCm⟩ := make_edges n hn
        have hn2 : (n : Int) ≤ 256 := by omega
        obtain ⟨bp, hbp⟩ : ∃ bp, wc.heap.size = bp := ⟨_, rfl⟩
        have hblp : b < bp := by have := HL.out.2.1; omega
        have HA0 : Hid (A1 w ((wc.alloc (.cells (madeCells #[.int .i64 0] n) 3)).alloc (.cells curE 27)) b bp n (fun _ => 0) (bp + 1) Ce 0 []) := by
          have k1 := Fr.alloc wc (.cells (madeCells #[.int .i64 0] n) 3) (fun _ => False)
          have x1 := nums_made wc n
          have s1 : (wc.alloc (.cells (madeCells #[.int .i64 0] n) 3)).heap.size = bp + 1 := by simp [hbp]
          rw [hbp] at x1
          generalize wc.alloc (.cells (madeCells #[.int .i64 0] n) 3) = W1 at *
          have k2 := Fr.alloc W1 (.cells curE 27) (fun _ => False)
          have x2 := World.ownsRow_made (base := bp + 1) (e := 27) (size := 2) W1 curE Ce (by omega) hCm hcs
          rw [s1] at x2
          have j1 := k1.trans k2 (fun _ _ e => e)
          have hB1 : Below w.heap.size w wc := by rw [hb]; exact HL.out.1
          exact ⟨hB1.trans (j1.below (by have := hB1.size; omega) (fun _ e => e.elim)), by have := k2.size; omega, fun j hj => j1.cell (HL.out.2.2 j hj) (fun e => e), x1.fr k2 (fun e => e), rfl, x2⟩
        go_upto_block 2 with fail
        clear hmk hme hcs hbp
        generalize (wc.alloc (.cells (madeCells #[.int .i64 0] n) 3)).alloc (.cells curE 27) = W1 at HA0 ⊢
        go_cut [9] (fun s9 wx => ∃ (pr : Nat → Int) (ρ c M : Nat), s9 = .slice (some ⟨ρ, 0, none⟩) M c ∧ Hid (A1 w wx b bp n pr ρ c M (Gr.eds (pF pv) (tF pv) lp)))
        case first =>
          as_aux_lemma =>
            clear HL
            go_wp2_with fail
            go_loopg [9, 10] lp (fun gk s9 s10 wr => ∃ (k : Nat) (pr : Nat → Int) (ρ c M : Nat), k ≤ lp ∧ gk = lp - k ∧ s9 = .slice (some ⟨ρ, 0, none⟩) M c ∧ s10 = .int .i64 ((k : Int) + 1) ∧ Hid (∀ j, 1 ≤ j → j ≤ k → pr j = (pF pv j : Int)) ∧ Hid (A1 w wr b bp n pr ρ c M (Gr.eds (pF pv) (tF pv) k)))
            case atStart => exact ⟨0, _, _, _, 0, Nat.zero_le _, rfl, rfl, rfl, fun j h1 h2 => by omega, HA0.out⟩
            case round =>
              clear HA0
              obtain ⟨k, pr, ρ, c, M, hk, rfl, rfl, rfl, Hpr, HA⟩ := hrel
              by_cases hkl : k < lp
              · have hl1 : (k : Int) + 1 < (n : Int) := by omega
                have hl2 : (k : Int) < (lp : Int) := by omega
                have hk1 : k + 1 < n := by omega
                have hM : M ≤ 510 := by
                  rw [HA.out.len]
                  have := Gr.eds_length (pF pv) (tF pv) k
                  omega
                have HM := hide hM
                obtain ⟨bP, oP, rfl, hcp⟩ := Hp.out k hkl
                have Hcp := hide hcp
                have cP1 := cell_later HA.out.below hcp
                have h127 := and127 (pv k) (Hpv.out k)
                have h128 := and128 (pv k) (Hpv.out k)
                have hmod : ((pv k % 128 : Nat) : Int).tmod ((k : Int) + 1) = ((pv k % 128 % (k + 1) : Nat) : Int) := by
                  rw [Int.tmod_eq_emod_of_nonneg (by omega)]
                  simp
                obtain ⟨pp, hpp⟩ : ∃ pp, pv k % 128 % (k + 1) = pp := ⟨_, rfl⟩
                have hppl : pp < k + 1 := by rw [← hpp]; exact Nat.mod_lt _ (by omega)
                have HpF : Hid (pF pv (k + 1) = pp) := hpp
                have HtF : Hid (tF pv (k + 1) = decide (128 ≤ pv k)) := rfl
                rw [hpp] at hmod
                obtain ⟨m7, hm7⟩ : ∃ m7, pv k % 128 = m7 := ⟨_, rfl⟩
                have hm7l : m7 < 128 := by rw [← hm7]; exact Nat.mod_lt _ (by omega)
                rw [hm7] at h127 hmod
                have c2 := HA.out.par.cell (k + 1) hk1
                have f2 := HA.out.par.free (k + 1) hk1
                have HA1 := hide (HA.out.putPar hk1 (pp : Int))
                clear hcp hpp hm7
                go_upto_region 17 with fail
                generalize wr.setCell ⟨bp, k + 1, none⟩ (.int .i64 (pp : Int)) = X at HA1 ⊢
                clear cP1 c2 f2 HA h127 hmod
                have l1 := HA1.out.labs (k + 1) hk1
                have l2 := HA1.out.labs pp (by omega)
                have hppn : (pp : Int) < (n : Int) := by omega
                obtain ⟨ρ1, cap1, w1, happ, HA2⟩ := push_edge HA1.out (Nat.le_trans hM (by omega)) (k + 1) pp
                generalize lab (k + 1) = la at l1 happ
                generalize lab pp = lb at l2 happ
                generalize Value.slice (some ⟨ρ, 0, none⟩) M c = va at happ ⊢
                simp [go_sem] at happ
                go_big_region
                clear happ l1 l2 HA1
                have cP1 := cell_later HA2.out.below Hcp.out
                have Hpr2 : Hid (∀ j, 1 ≤ j → j ≤ k + 1 → (fun v => if v = k + 1 then (pp : Int) else pr v) j = (pF pv j : Int)) := fun j h1 h2 => by
                  show (if j = k + 1 then (pp : Int) else pr j) = _
                  by_cases e : j = k + 1
                  · rw [if_pos e, e, HpF.out]
                  · rw [if_neg e]; exact Hpr.out j h1 (by omega)
                by_cases ht : 128 ≤ pv k
                · rw [if_pos ht] at h128
                  by_cases h0 : 0 < pp
                  · have h0z : (0 : Int) < (pp : Int) := by omega
                    have HEd : Hid (Gr.eds (pF pv) (tF pv) (k + 1) = (Gr.eds (pF pv) (tF pv) k ++ [(k + 1, pp)]) ++ [(k + 1, pF pv pp)]) := by
                      show _ = _
                      rw [Gr.eds, HpF.out, HtF.out, if_pos (by simp [ht, h0])]
                    have hqq : pF pv pp < pp := pF_lt pv pp h0
                    obtain ⟨qq, hq⟩ : ∃ qq, pF pv pp = qq := ⟨_, rfl⟩
                    rw [hq] at hqq HEd
                    have c3 : w1.cell? ⟨bp, pp, none⟩ = some (.int .i64 (qq : Int)) := by
                      have h7 := HA2.out.par.cell pp (by omega)
                      have h8 := Hpr2.out pp (by omega) (by omega)
                      simp only at h8
                      rw [h8, hq] at h7
                      exact h7
                    have hqz : (qq : Int) < (n : Int) := by omega
                    have l1 := HA2.out.labs (k + 1) hk1
                    have l2 := HA2.out.labs qq (by omega)
                    obtain ⟨ρ2, cap2, w2, happ, HA3⟩ := push_edge HA2.out (Nat.le_trans (Nat.succ_le_succ HM.out) (by omega)) (k + 1) qq
                    generalize lab (k + 1) = la at l1 happ
                    generalize lab qq = lb at l2 happ
                    clear hq
                    go_upto_region 19 with fail
                    clear cP1 h128
                    generalize Value.slice (some ⟨ρ1, 0, none⟩) (M + 1) cap1 = va1 at happ ⊢
                    simp [go_sem] at happ
                    go_big_region
                    clear happ l1 l2 c3
                    go_wp2_with fail
                    go_roundg (lp - (k + 1))
                    case measure => omega
                    case rel => exact ⟨k + 1, _, ρ2, cap2, M + 1 + 1, by omega, rfl, rfl, by go_num, Hpr2.out, HA3.out.cong (fun _ _ => rfl) HEd.out.symm⟩
                  · have h0z : ¬ (0 : Int) < (pp : Int) := by omega
                    have HEd : Hid (Gr.eds (pF pv) (tF pv) (k + 1) = Gr.eds (pF pv) (tF pv) k ++ [(k + 1, pp)]) := by
                      show _ = _
                      rw [Gr.eds, HpF.out, HtF.out, if_neg (by simp [h0]), List.append_nil]
                    go_wp2_with fail
                    go_roundg (lp - (k + 1))
                    case measure => omega
                    case rel => exact ⟨k + 1, _, ρ1, cap1, M + 1, by omega, rfl, rfl, by go_num, Hpr2.out, HA2.out.cong (fun _ _ => rfl) HEd.out.symm⟩
                · rw [if_neg ht] at h128
                  have HEd : Hid (Gr.eds (pF pv) (tF pv) (k + 1) = Gr.eds (pF pv) (tF pv) k ++ [(k + 1, pp)]) := by
                    show _ = _
                    rw [Gr.eds, HpF.out, HtF.out, if_neg (by simp [ht]), List.append_nil]
                  go_wp2_with fail
                  go_roundg (lp - (k + 1))
                  case measure => omega
                  case rel => exact ⟨k + 1, _, ρ1, cap1, M + 1, by omega, rfl, rfl, by go_num, Hpr2.out, HA2.out.cong (fun _ _ => rfl) HEd.out.symm⟩
              · obtain rfl : k = lp := by omega
                have hl1 : ¬ (k : Int) + 1 < (n : Int) := by omega
                go_wp2_with fail
                go_meet
                exact ⟨pr, ρ, c, M, rfl, HA.out⟩
        case rest =>
          as_aux_lemma =>
            clear HA0 HL
            obtain ⟨pr, ρ, c, M, rfl, HA⟩ := hcut
            have hM : M ≤ 512 := by
              rw [HA.out.len]
              have := Gr.eds_length (pF pv) (tF pv) lp
              omega
            have NGc := newgraph_any wc b n ρ c n M (Gr.eds (pF pv) (tF pv) lp) (Gr.adjB (pF pv) (tF pv) n) hn0 hn hM HA.out.len.symm HA.out.labs HA.out.reads (fun e he => by have := Gr.eds_lt (pF_lt pv) he; omega) (Gr.eds_nodup (pF_lt pv) lp) (Gr.built_elim (pF pv) (tF pv) n (pF_lt pv)) (fun x y h => Gr.adjB_lt h) (fun x y => by rw [← hnl]; exact Gr.eds_adj (pF_lt pv) lp x y) (Gr.built_conn (pF pv) (tF pv) n (pF_lt pv))
            have HNG := hide NGc
            have HB1 := hide HA.out.below
            have hmk := run_make_row' (P := Ybaf.prog) 23 3 (.int .i64 0) 8 Ybaf.underlying23 Ybaf.info3 rfl .i64 .i64 n (by omega) (by omega)
            clear NGc HA
            generalize hadj : Gr.adjB (pF pv) (tF pv) n = adj at HNG
            clear hadj
            go_upto_region 23 with (first | (go_at_call 5; refine HNG.out.mono ?_; rintro e w1 ⟨cg, g, nb, Ks, rfl, HGr⟩) | fail)
            have HB2 : Hid (Below b w w1) := by
              have h7 := HB1.out
              have h8 := HGr.out.2.2.2
              rw [hb] at h7
              exact h7.trans (h8.mono (by have := h7.size; omega))
            obtain ⟨bw, hbw⟩ : ∃ bw, w1.heap.size = bw := ⟨_, rfl⟩
            clear HNG HB1
            go_upto_block 4 with fail
            go_cut [15] (fun _ wx => Hid (Nums wx bw n (fun u => if u < lw then wv u else 0) ∧ Below bw w1 wx))
            case first =>
              as_aux_lemma =>
                have HN := hide (nums_made w1 n)
                rw [hbw] at HN
                have HB0 : Hid (Below bw w1 (w1.alloc (.cells (madeCells #[.int .i64 0] n) 3))) := (Below.refl bw w1).alloc (by omega) _
                clear hmk
                generalize w1.alloc (.cells (madeCells #[.int .i64 0] n) 3) = W0 at HN HB0 ⊢
                go_wp2_with fail
                go_loopg [126] n (fun gk s126 wr => ∃ v : Nat, v ≤ n ∧ gk = n - v ∧ s126 = .int .i64 (v : Int) ∧ Hid (Nums wr bw n (fun u => if u < v ∧ u < lw then wv u else 0) ∧ Below bw w1 wr))
                case atStart => exact ⟨0, Nat.zero_le _, rfl, rfl, HN.out.congr (by simp), HB0.out⟩
                case round =>
                  clear HN HB0
                  obtain ⟨v, hv, rfl, rfl, HR⟩ := hrel
                  by_cases hvn : v < n
                  · have hl1 : (v : Int) < (n : Int) := by omega
                    have c1 := HR.out.1.cell v hvn
                    have f1 := HR.out.1.free v hvn
                    by_cases hvl : v < lw
                    · have hl2 : (v : Int) < (lw : Int) := by omega
                      obtain ⟨bW, oW, rfl, hcw⟩ := Hw.out v hvl
                      have cw : wr.cell? ⟨bW, oW + v, none⟩ = some (.int .i64 (wv v)) := by
                        have h7 : Below w.heap.size w w1 := by rw [hb]; exact HB2.out
                        have h8 := cell_later h7 hcw
                        have h9 : Below w1.heap.size w1 wr := by rw [hbw]; exact HR.out.2
                        exact cell_later h9 h8
                      have HR2 : Hid (Nums (wr.setCell ⟨bw, v, none⟩ (.int .i64 (wv v))) bw n (fun u => if u < v + 1 ∧ u < lw then wv u else 0) ∧ Below bw w1 (wr.setCell ⟨bw, v, none⟩ (.int .i64 (wv v)))) :=
                        ⟨(HR.out.1.set hvn (wv v)).congr (fun u _ => by
                          by_cases e : u = v
                          · subst e; simp [hvl]
                          · by_cases e2 : u < v
                            · simp [e, e2, show u < v + 1 by omega]
                            · simp [e, e2, show ¬ u < v + 1 by omega]), HR.out.2.setCell (p := ⟨bw, v, none⟩) (Nat.le_refl _) _⟩
                      clear hcw
                      go_wp2_with fail
                      go_roundg (n - (v + 1))
                      case measure => omega
                      case rel => exact ⟨v + 1, by omega, rfl, by go_num, HR2.out⟩
                    · have hl2 : ¬ (v : Int) < (lw : Int) := by omega
                      go_wp2_with fail
                      go_roundg (n - (v + 1))
                      case measure => omega
                      case rel => exact ⟨v + 1, by omega, rfl, by go_num, HR.out.1.congr (fun u _ => by
                          by_cases e : u = v
                          · subst e; simp [hvl]
                          · by_cases e2 : u < v
                            · simp [e2, show u < v + 1 by omega]
                            · simp [e2, show ¬ u < v + 1 by omega]), HR.out.2⟩
                  · obtain rfl : v = n := by omega
                    go_wp2_with fail
                    go_meet
                    exact ⟨HR.out.1.congr (fun u hu => by simp [hu]), HR.out.2⟩
            case rest =>
              as_aux_lemma =>
                have HWt := hcut
                clear hcut
                obtain ⟨wt, hwt⟩ : ∃ wt : Nat → Int, (fun u => if u < lw then wv u else 0) = wt := ⟨_, rfl⟩
                have Hwf : Hid (∀ v, v < n → wrap64 (wt v) = wt v) := fun v _ => by
                  rw [← hwt]
                  show wrap64 (if v < lw then wv v else 0) = if v < lw then wv v else 0
                  split
                  · exact Hwv.out v
                  · exact wrap_zero
                rw [hwt] at HWt
                clear hwt
                have hBw : Below w1.heap.size w1 wc := by rw [hbw]; exact HWt.out.2
                obtain ⟨hG0, NN, hC0, hBx⟩ := HGr.out
                have HG2 := hide (hG0.later hBw)
                have HC2 := hide (hC0.later hBw)
                obtain ⟨F, hF⟩ := exists_F adj wt
                have HF := hide hF
                have hLi := lightest_any wc cg g n adj nb HG2.out NN Ks HC2.out bw n wt HWt.out.1.cell Hwf.out hn hn0 F (fun K _ x _ L h => hF (inl K) x L h)
                have HLi := hide hLi
                have HB3 : Hid (Below b w wc) := HB2.out.trans (HWt.out.2.mono (by have := HB2.out.size; omega))
                clear hLi hF hG0 hC0 hBx hBw HGr HB2
                go_upto_region 33 with (first | (go_at_call 6; refine HLi.out.mono ?_; rintro e w3 ⟨bg, cG, rfl, hgot, hB5⟩; have Hgot := hide hgot; have HB5 := hide hB5; clear hgot hB5) | fail)
                clear HLi
                obtain ⟨b3, hb3⟩ : ∃ b3, w3.heap.size = b3 := ⟨_, rfl⟩
                have HG3 := hide (HG2.out.later HB5.out)
                have HC3 := hide (HC2.out.later HB5.out)
                have HW3 : Hid (∀ v, v < n → w3.cell? ⟨bw, v, none⟩ = some (.int .i64 (wt v))) := fun v hv => cell_later HB5.out (HWt.out.1.cell v hv)
                have HB6 : Hid (Below b w w3) := HB3.out.trans (HB5.out.mono (by have := HB3.out.size; omega))
                clear HG2 HC2 HWt HB3 HB5
                go_upto_block 6 with fail
                go_cut [18] (fun _ wx => wx.heap.size = b3 + 1 ∧ Hid (Nums wx b3 n (fun _ => 9223372036854775807) ∧ Below b3 w3 wx))
                case first =>
                  as_aux_lemma =>
                    have HN := hide (nums_made w3 n)
                    rw [hb3] at HN
                    have HB0 : Hid (Below b3 w3 (w3.alloc (.cells (madeCells #[.int .i64 0] n) 3))) := (Below.refl b3 w3).alloc (by omega) _
                    go_wp2_with fail
                    go_loopg [151] n (fun gk s151 wr => ∃ v : Nat, v ≤ n ∧ gk = n - v ∧ s151 = .int .i64 (v : Int) ∧ Hid (wr.heap.size = b3 + 1) ∧ Hid (Nums wr b3 n (fun u => if u < v then 9223372036854775807 else 0) ∧ Below b3 w3 wr))
                    case atStart => exact ⟨0, Nat.zero_le _, rfl, rfl, by show _ = _; simp [hb3], ⟨HN.out.congr (by simp), HB0.out⟩⟩
                    case round =>
                      obtain ⟨v, hv, rfl, rfl, HS, HR⟩ := hrel
                      by_cases hlt : v < n
                      · have hl1 : (v : Int) < (n : Int) := by omega
                        have c1 := HR.out.1.cell v hlt
                        have f1 := HR.out.1.free v hlt
                        have HR2 : Hid (Nums (wr.setCell ⟨b3, v, none⟩ (.int .i64 9223372036854775807)) b3 n (fun u => if u < v + 1 then 9223372036854775807 else 0) ∧ Below b3 w3 (wr.setCell ⟨b3, v, none⟩ (.int .i64 9223372036854775807))) :=
                          ⟨(HR.out.1.set hlt 9223372036854775807).congr (fun u _ => by by_cases e : u = v; simp [e]; by_cases e2 : u < v; simp [e, e2, show u < v + 1 by omega]; simp [e, e2, show ¬ u < v + 1 by omega]), HR.out.2.setCell (p := ⟨b3, v, none⟩) (Nat.le_refl _) _⟩
                        go_wp2_with fail
                        go_roundg (n - (v + 1))
                        case measure => omega
                        case rel => exact ⟨v + 1, by omega, rfl, by go_num, by show _ = _; simpa using HS.out, HR2.out⟩
                      · obtain rfl : v = n := by omega
                        go_wp2_with fail
                        go_meet
                        exact ⟨HS.out, HR.out.1.congr (fun u hu => by simp [hu]), HR.out.2⟩
                case rest =>
                  as_aux_lemma =>
                    obtain ⟨hsz, HR⟩ := hcut
                    have hmb := run_make_row' (P := Ybaf.prog) 34 4 (.bool false) 1 Ybaf.underlying34 Ybaf.info4 rfl .i64 .i64 n (by omega) (by omega)
                    have hmr := make_room n hn
                    have HMd := hide (md_start hn hb3 hsz HR.out.1 HR.out.2)
                    obtain ⟨bK, cK, hcl, hrowsK⟩ := HC3.out.cl
                    have HrowsK := hide hrowsK
                    have hclW := hide hcl
                    have hlabW := HC3.out.lab
                    clear hrowsK hcl
                    go_upto_region 42 with fail
                    generalize ((wc.alloc (Obj.cells (madeCells #[Value.bool false] n) 4)).alloc (Obj.cells (madeCells #[Value.bool false] n) 4)).alloc (Obj.cells (madeCells #[Value.int IntKind.i64 0] n) 3) = W0 at HMd ⊢
                    have hcl0 : W0.cell? ⟨cg, 2, none⟩ = some (.slice (some ⟨bK, 0, none⟩) n cK) := HMd.out.far hclW.out
                    go_upto_block 8 with fail
                    clear hcl0 hmk hmb hmr HR hsz
                    simp only [Nat.add_assoc, Nat.reduceAdd]
                    go_cut [23] (fun _ wx => Hid (Nums wx b3 n (minF F Ks) ∧ Below b3 w3 wx))
                    case first =>
                      as_aux_lemma =>
                        go_wp2_with fail
                        go_loopg [21, 169] n (fun gk s21 s169 wr => ∃ (k ρ c Mq : Nat) (vis : Nat → Bool) (Q : List Nat), k ≤ n ∧ gk = n - k ∧ s21 = .slice (some ⟨ρ, 0, none⟩) Mq c ∧ s169 = .int .i64 (k : Int) ∧ Hid (Md w3 wr b3 n (minF F (Ks.take k)) (fun _ => false) vis ρ c Q))
                        case atStart => exact ⟨0, b3 + 3, n, 0, _, _, Nat.zero_le _, rfl, rfl, rfl, HMd.out.cong (by simp [minF]) (fun _ _ => rfl) (fun _ _ => rfl)⟩
                        case round =>
                          clear HMd
                          obtain ⟨k, ρ, c, Mq, vis, Q, hk, rfl, rfl, rfl, HL⟩ := hrel
                          by_cases hkn : k < n
                          · have hl1 : (k : Int) < (n : Int) := by omega
                            obtain ⟨K, hK⟩ : ∃ K, Ks[k]? = some K := ⟨Ks[k]'(by rw [HC3.out.len]; exact hkn), List.getElem?_eq_getElem (by rw [HC3.out.len]; exact hkn)⟩
                            have hKm := List.mem_of_getElem? hK
                            obtain ⟨bk, ck, hck0, hKcells0⟩ := HrowsK.out k K hK
                            have hck := HL.out.far hck0
                            have HKc := hide hKcells0
                            have hKl := HC3.out.short K hKm
                            have HKlt := hide (HC3.out.lt K hKm)
                            have HK := hide hK
                            have HKm := hide hKm
                            clear hck0 hKcells0 hK hKm
                            obtain ⟨lK, hlK⟩ : ∃ lK, K.length = lK := ⟨_, rfl⟩
                            have HlK := hide hlK
                            rw [hlK] at hck hKl
                            clear hlK
                            go_upto_block 10 with fail
                            clear hck
                            go_cut [25] (fun _ wx => Hid (Md w3 wx b3 n (minF F (Ks.take k)) (inl K) vis ρ c Q))
                            case first =>
                              as_aux_lemma =>
                                go_wp2_with fail
                                go_loopg [175] lK (fun gk s175 wr => ∃ j : Nat, j ≤ lK ∧ gk = lK - j ∧ s175 = .int .i64 (j : Int) ∧ Hid (Md w3 wr b3 n (minF F (Ks.take k)) (inl (K.take j)) vis ρ c Q))
                                case atStart => exact ⟨0, Nat.zero_le _, rfl, rfl, HL.out.cong (fun _ _ => rfl) (fun v _ => by simp [inl]) (fun _ _ => rfl)⟩
                                case round =>
                                  clear HL
                                  obtain ⟨j, hj, rfl, rfl, HL⟩ := hrel
                                  by_cases hjl : j < lK
                                  · have hl2 : (j : Int) < (lK : Int) := by omega
                                    have hjK : j < K.length := by rw [HlK.out]; exact hjl
                                    obtain ⟨u, hu⟩ : ∃ u, K[j]? = some u := ⟨K[j], List.getElem?_eq_getElem hjK⟩
                                    have hun := HKlt.out u (List.mem_of_getElem? hu)
                                    have huz : (u : Int) < (n : Int) := by omega
                                    have c1 := HL.out.far (HKc.out j u hu)
                                    have c2 := HL.out.inC.cell u hun
                                    have f2 := HL.out.inC.free u hun
                                    have HN := hide (HL.out.putIn hun true)
                                    rw [inl_mark K j u hu] at HN
                                    clear hu hjK
                                    go_wp2_with fail
                                    go_roundg (lK - (j + 1))
                                    case measure => omega
                                    case rel => exact ⟨j + 1, by omega, rfl, by go_num, HN.out⟩
                                  · obtain rfl : j = lK := by omega
                                    go_wp2_with fail
                                    go_meet
                                    exact HL.out.cong (fun _ _ => rfl) (fun v _ => by rw [← HlK.out, List.take_length]) (fun _ _ => rfl)
                            case rest =>
                              as_aux_lemma =>
                                clear HL
                                have HL := hcut
                                clear hcut
                                go_upto_block 12 with fail
                                go_cut [21] (fun s21 wx => ∃ (ρ c Mq : Nat) (vis : Nat → Bool) (Q : List Nat), s21 = .slice (some ⟨ρ, 0, none⟩) Mq c ∧ Hid (Md w3 wx b3 n (minF F (Ks.take (k + 1))) (inl K) vis ρ c Q))
                                case first =>
                                  as_aux_lemma =>
                                    go_wp2_with fail
                                    go_loopg [21, 184] n (fun gk s21 s184 wr => ∃ (x ρ c Mq : Nat) (vis : Nat → Bool) (Q : List Nat), x ≤ n ∧ gk = n - x ∧ s21 = .slice (some ⟨ρ, 0, none⟩) Mq c ∧ s184 = .int .i64 (x : Int) ∧ Hid (Md w3 wr b3 n (fun y => if y < x then minF F (Ks.take (k + 1)) y else minF F (Ks.take k) y) (inl K) vis ρ c Q))
                                    case atStart => exact ⟨0, ρ, c, Mq, vis, Q, Nat.zero_le _, rfl, rfl, rfl, HL.out.cong (fun _ _ => by simp) (fun _ _ => rfl) (fun _ _ => rfl)⟩
                                    case round =>
                                      clear HL
                                      obtain ⟨x, ρ, c, Mq, vis, Q, hx, rfl, rfl, rfl, HL⟩ := hrel
                                      by_cases hxn : x < n
                                      · have hl2 : (x : Int) < (n : Int) := by omega
                                        obtain ⟨mx, hmx⟩ : ∃ mx : Nat → Int, (fun y => if y < x then minF F (Ks.take (k + 1)) y else minF F (Ks.take k) y) = mx := ⟨_, rfl⟩
                                        rw [hmx] at HL
                                        have Hmx := hide hmx
                                        clear hmx
                                        go_upto_block 14 with fail
                                        go_cut [27] (fun _ wx => Hid (Md w3 wx b3 n mx (inl K) (Gr.but (inl K) x) ρ c Q))
                                        case first =>
                                          as_aux_lemma =>
                                            go_wp2_with fail
                                            go_loopg [188] n (fun gk s188 wr => ∃ v : Nat, v ≤ n ∧ gk = n - v ∧ s188 = .int .i64 (v : Int) ∧ Hid (Md w3 wr b3 n mx (inl K) (fun u => if u < v then Gr.but (inl K) x u else vis u) ρ c Q))
                                            case atStart => exact ⟨0, Nat.zero_le _, rfl, rfl, HL.out.cong (fun _ _ => rfl) (fun _ _ => rfl) (fun _ _ => by simp)⟩
                                            case round =>
                                              clear HL
                                              obtain ⟨v, hv, rfl, rfl, HL⟩ := hrel
                                              by_cases hvn : v < n
                                              · have hl3 : (v : Int) < (n : Int) := by omega
                                                have c1 := HL.out.inC.cell v hvn
                                                have c2 := HL.out.visC.cell v hvn
                                                have f2 := HL.out.visC.free v hvn
                                                have HN : ∀ z, z = Gr.but (inl K) x v → Hid (Md w3 (wr.setCell ⟨b3 + 2, v, none⟩ (.bool z)) b3 n mx (inl K) (fun u => if u < v + 1 then Gr.but (inl K) x u else vis u) ρ c Q) := fun z hz => by
                                                  refine (HL.out.putVis hvn z).cong (fun _ _ => rfl) (fun _ _ => rfl) (fun u _ => ?_)
                                                  by_cases e : u = v
                                                  · subst e; simp [hz]
                                                  · by_cases e2 : u < v
                                                    · simp [e, e2, show u < v + 1 by omega]
                                                    · simp [e, e2, show ¬ u < v + 1 by omega]
                                                have HN2 := hide HN
                                                clear HN
                                                generalize (if v < v then Gr.but (inl K) x v else vis v) = zv at c2
                                                cases hvK : inl K v
                                                · rw [hvK] at c1
                                                  have HN3 := HN2.out false (by simp [Gr.but, hvK])
                                                  clear hvK
                                                  go_wp2_with fail
                                                  go_roundg (n - (v + 1))
                                                  case measure => omega
                                                  case rel => exact ⟨v + 1, by omega, rfl, by go_num, HN3.out⟩
                                                · rw [hvK] at c1
                                                  by_cases hvx : v = x
                                                  · have HN3 := HN2.out false (by simp [Gr.but, hvx])
                                                    clear hvK
                                                    subst hvx
                                                    go_wp2_with fail
                                                    go_roundg (n - (v + 1))
                                                    case measure => omega
                                                    case rel => exact ⟨v + 1, by omega, rfl, by go_num, HN3.out⟩
                                                  · have HN3 := HN2.out true (by simp [Gr.but, hvK, hvx])
                                                    have hvz : ((v : Int) != (x : Int)) = true := by simp; omega
                                                    clear hvK hvx
                                                    go_wp2_with fail
                                                    go_roundg (n - (v + 1))
                                                    case measure => omega
                                                    case rel => exact ⟨v + 1, by omega, rfl, by go_num, HN3.out⟩
                                              · obtain rfl : v = n := by omega
                                                go_wp2_with fail
                                                go_meet
                                                exact HL.out.cong (fun _ _ => rfl) (fun _ _ => rfl) (fun u hu => by simp [hu])
                                        case rest =>
                                          as_aux_lemma =>
                                            clear HL
                                            have HL := hcut
                                            clear hcut
                                            have c1 := HL.out.visC.cell x hxn
                                            have f1 := HL.out.visC.free x hxn
                                            have HL1 := hide (HL.out.putVis hxn true).noQueue
                                            go_upto_region 59 with fail
                                            clear c1 f1 HL
                                            generalize wc.setCell ⟨b3 + 2, x, none⟩ (.bool true) = X at HL1 ⊢
                                            have H1 : ∀ o, (X.alloc o).ownsRow b3 3 1 (.slice (some ⟨ρ, 0, none⟩) 0 c) 0 [] := fun o => HL1.out.queue.own.alloc o
                                            have hbX : b3 ≤ X.heap.size := by have := HL1.out.size; omega
                                            go_upto_block 16 with (first | (at_builtin; refine wpList_append_own_at _ rfl (.tmp 208) (.tmp 210) 23 rfl b3 3 i3 (.int .i64 0) 1 8 Ybaf.underlying23 hi3 hz03 hz13 hz23 rfl (by decide) (.slice (some ⟨ρ, 0, none⟩) 0 c) 0 [] rfl (H1 _) ⟨X.heap.size, 0, none⟩ 1 1 [.int .i64 (x : Int)] rfl rfl (one_at X x 3) (by intro u hu; simp at hu; subst hu; rfl) (by unfold maxLen; omega) (by omega) (by simp; omega) ?_; intro v1 w5 hown1 hgr1 hnil1 hat1; obtain ⟨ρ1, c1, M1, rfl, HM1, hrow1, hatp⟩ := own_next (L := []) (u := x) hown1 hnil1 hat1) | fail)
                                            have HL2 := hide (HL1.out.pushed hgr1 hrow1 hatp)
                                            clear hown1 hgr1 hnil1 hat1 hrow1 hatp HL1 H1
                                            go_cut [21, 28] (fun s21 s28 wx => ∃ (ρ c Mq : Nat) (Z : Int) (f : Nat → Bool) (L : List Nat), s21 = .slice (some ⟨ρ, 0, none⟩) Mq c ∧ s28 = .int .i64 Z ∧ Hid (Z = F (inl K) x) ∧ Hid (Md w3 wx b3 n mx (inl K) f ρ c L))
                                            case first =>
                                              as_aux_lemma =>
                                                go_wp2_with fail
                                                go_loopg [21, 28, 29] (n + 1) (fun gk s21 s28 s29 wr => ∃ (ρ c t Mq : Nat) (Z : Int) (f : Nat → Bool) (L : List Nat), t ≤ L.length ∧ gk = n + 1 - t ∧ s21 = .slice (some ⟨ρ, 0, none⟩) Mq c ∧ s28 = .int .i64 Z ∧ s29 = .int .i64 (t : Int) ∧ Hid (Mq = L.length ∧ Z = wrap64 (Gr.isum wt (L.take t))) ∧ Hid (Gr.Search adj nb n (Gr.but (inl K) x) x f L t 0) ∧ Hid (Md w3 wr b3 n mx (inl K) f ρ c L))
                                                case atStart => exact ⟨ρ1, c1, 0, M1, 0, _, [x], by simp, rfl, rfl, rfl, rfl, ⟨HM1.out, by simp [Gr.isum, wrap_zero]⟩, Gr.Search.begin hxn, HL2.out⟩
                                                case round =>
                                                  clear HL2 HM1
                                                  obtain ⟨ρ, c, t, Mq, Z, f, L, ht, rfl, rfl, rfl, rfl, HMZ, HSr, HL⟩ := hrel
                                                  have hLn := HSr.out.short
                                                  have hMq := HMZ.out.1
                                                  by_cases htl : t < L.length
                                                  · have hl3 : (t : Int) < (Mq : Int) := by omega
                                                    have hMq2 : Mq ≤ 256 := by omega
                                                    obtain ⟨v, hv⟩ : ∃ v, L[t]? = some v := ⟨L[t], List.getElem?_eq_getElem htl⟩
                                                    have hvn := HSr.out.lt v (List.mem_of_getElem? hv)
                                                    have hvz : (v : Int) < (n : Int) := by omega
                                                    have c5 := HL.out.queue.cell hv
                                                    have c6 := HL.out.far (HW3.out v hvn)
                                                    have c7 := HL.out.far hlabW
                                                    obtain ⟨lN, hlN⟩ : ∃ lN, (nb v).length = lN := ⟨_, rfl⟩
                                                    have hlNn : lN ≤ 256 := by have := NN.short hvn; omega
                                                    have HlN := hide hlN
                                                    have HZ1 : Hid (wrap64 (Z + wt v) = wrap64 (Gr.isum wt (L.take (t + 1)))) := by
                                                      show _ = _
                                                      rw [HMZ.out.2, wrap_add, isum_take wt L t v hv]
                                                    obtain ⟨Z1, hZ1⟩ : ∃ Z1, wrap64 (Z + wt v) = Z1 := ⟨_, rfl⟩
                                                    have Hv := hide hv
                                                    clear hlN hv hMq
                                                    go_upto_block 18 with (first | (go_at_call 7; refine (neighbours_far (w0 := w3) g n nb v hvn _ HG3.out (by have := HL.out.below; rw [hb3]; exact this)).mono ?_; rintro e w' ⟨⟨aN, cN, rfl, HNc⟩, rfl⟩; rw [HlN.out]) | fail)
                                                    rw [hZ1] at HZ1
                                                    have HNc2 := hide HNc
                                                    clear HNc c5 c6 c7 hZ1
                                                    go_wp2_with fail
                                                    go_loopg [21, 235] lN (fun gk s21 s235 wr => ∃ (ρ c q Mq : Nat) (f : Nat → Bool) (L : List Nat), q ≤ lN ∧ gk = lN - q ∧ s21 = .slice (some ⟨ρ, 0, none⟩) Mq c ∧ s235 = .int .i64 (q : Int) ∧ Hid (Mq = L.length ∧ L[t]? = some v ∧ Z1 = wrap64 (Gr.isum wt (L.take (t + 1)))) ∧ Hid (Gr.Search adj nb n (Gr.but (inl K) x) x f L t q) ∧ Hid (Md w3 wr b3 n mx (inl K) f ρ c L))
                                                    case atStart => exact ⟨ρ, c, 0, Mq, f, L, Nat.zero_le _, rfl, rfl, rfl, ⟨HMZ.out.1, Hv.out, HZ1.out⟩, HSr.out, HL.out⟩
                                                    case round =>
                                                      clear HL HSr HMZ Hv HZ1 hLn hMq2 hl3 htl
                                                      obtain ⟨ρ, c, q, Mq, f, L, hq, rfl, rfl, rfl, HMZ, HSr, HL⟩ := hrel
                                                      have hLn := HSr.out.short
                                                      have hMq2 : Mq ≤ 256 := by rw [HMZ.out.1]; omega
                                                      by_cases hql : q < lN
                                                      · have hl4 : (q : Int) < (lN : Int) := by omega
                                                        obtain ⟨u, hu⟩ : ∃ u, (nb v)[q]? = some u := ⟨(nb v)[q]'(by rw [HlN.out]; exact hql), List.getElem?_eq_getElem _⟩
                                                        have hun := ((NN.iff v u hvn).1 (List.mem_of_getElem? hu)).1
                                                        have huz : (u : Int) < (n : Int) := by omega
                                                        obtain ⟨bN, rfl, hcu'⟩ := HNc2.out q u hu
                                                        have cU := HL.out.far hcu'
                                                        have cV := HL.out.visC.cell u hun
                                                        have fV := HL.out.visC.free u hun
                                                        have HU := hide hu
                                                        clear hcu' hu
                                                        cases hf : f u
                                                        · rw [hf] at cV
                                                          have HF2 := hide hf
                                                          clear hf
                                                          have HLp := hide (HL.out.putVis hun true)
                                                          go_upto_region 71 with fail
                                                          clear cU cV fV
                                                          generalize wr.setCell ⟨b3 + 2, u, none⟩ (.bool true) = X at HLp ⊢
                                                          have H1 : ∀ o, (X.alloc o).ownsRow b3 3 1 (.slice (some ⟨ρ, 0, none⟩) Mq c) Mq (ints L) := fun o => by
                                                            have h0 := HLp.out.queue.own
                                                            rw [← HMZ.out.1] at h0
                                                            exact h0.alloc o
                                                          have hbX : b3 ≤ X.heap.size := by have := HLp.out.size; omega
                                                          go_wp2_with (first | (at_builtin; refine wpList_append_own_at _ rfl (.tmp 247) (.tmp 249) 23 rfl b3 3 i3 (.int .i64 0) 1 8 Ybaf.underlying23 hi3 hz03 hz13 hz23 rfl (by decide) (.slice (some ⟨ρ, 0, none⟩) Mq c) Mq (ints L) rfl (H1 _) ⟨X.heap.size, 0, none⟩ 1 1 [.int .i64 (u : Int)] rfl rfl (one_at X u 3) (by intro u hu; simp at hu; subst hu; rfl) (by unfold maxLen; omega) (by omega) (by simp; omega) ?_; intro v1 w5 hown1 hgr1 hnil1 hat1; rw [HMZ.out.1] at hown1; obtain ⟨ρ2, c2, M2, rfl, HM2, hrow1, hatp⟩ := own_next hown1 hnil1 hat1) | fail)
                                                          have HL3 := hide (HLp.out.pushed hgr1 hrow1 hatp)
                                                          have HS3 := hide (HSr.out.take NN HMZ.out.2.1 HU.out HF2.out)
                                                          have htL : t < L.length := (List.getElem?_eq_some_iff.1 HMZ.out.2.1).1
                                                          have HMZ3 : Hid (M2 = (L ++ [u]).length ∧ (L ++ [u])[t]? = some v ∧ Z1 = wrap64 (Gr.isum wt ((L ++ [u]).take (t + 1)))) :=
                                                            ⟨HM2.out, by rw [List.getElem?_append_left htL]; exact HMZ.out.2.1, by rw [List.take_append_of_le_length (by omega)]; exact HMZ.out.2.2⟩
                                                          go_roundg (lN - (q + 1))
                                                          case measure => omega
                                                          case rel => exact ⟨ρ2, c2, q + 1, M2, _, L ++ [u], by omega, rfl, rfl, by go_num, HMZ3.out, HS3.out, HL3.out⟩
                                                        · rw [hf] at cV
                                                          have HS3 := hide (HSr.out.skip HMZ.out.2.1 HU.out hf)
                                                          clear hf
                                                          go_wp2_with fail
                                                          go_roundg (lN - (q + 1))
                                                          case measure => omega
                                                          case rel => exact ⟨ρ, c, q + 1, Mq, f, L, by omega, rfl, rfl, by go_num, HMZ.out, HS3.out, HL.out⟩
                                                      · obtain rfl : q = lN := by omega
                                                        have HS3 := hide (HSr.out.next HMZ.out.2.1 (by rw [HlN.out]; exact Nat.le_refl _))
                                                        have htL : t < L.length := (List.getElem?_eq_some_iff.1 HMZ.out.2.1).1
                                                        go_wp2_with fail
                                                        go_roundg (n + 1 - (t + 1))
                                                        case measure => omega
                                                        case rel => exact ⟨ρ, c, t + 1, Mq, Z1, f, L, htL, rfl, rfl, rfl, by go_num, ⟨HMZ.out.1, HMZ.out.2.2⟩, HS3.out, HL.out⟩
                                                  · have hl3 : ¬ (t : Int) < (Mq : Int) := by omega
                                                    have HZF : Hid (Z = F (inl K) x) := by
                                                      show _ = _
                                                      have h8 := HF.out (inl K) x L (HSr.out.over NN (by omega))
                                                      rw [← h8, HMZ.out.2, List.take_of_length_le (by omega)]
                                                    clear hMq
                                                    go_wp2_with fail
                                                    go_meet
                                                    exact ⟨ρ, c, Mq, Z, f, L, rfl, rfl, HZF.out, HL.out⟩
                                            case rest =>
                                              as_aux_lemma =>
                                                clear HL2
                                                obtain ⟨ρ, c, Mq, Z, f, L, rfl, rfl, HZ, HL⟩ := hcut
                                                have c1 := HL.out.want.cell x hxn
                                                have f1 := HL.out.want.free x hxn
                                                obtain ⟨m0, hm0⟩ : ∃ m0, mx x = m0 := ⟨_, rfl⟩
                                                rw [hm0] at c1
                                                have Hm0 := hide hm0
                                                clear hm0
                                                have Hfin : ∀ w', Md w3 w' b3 n (fun v => if v = x then least2 m0 Z else mx v) (inl K) f ρ c L → Hid (Md w3 w' b3 n (fun y => if y < x + 1 then minF F (Ks.take (k + 1)) y else minF F (Ks.take k) y) (inl K) f ρ c L) := fun w' h => by
                                                  refine h.cong (fun v _ => ?_) (fun _ _ => rfl) (fun _ _ => rfl)
                                                  by_cases e : v = x
                                                  · subst e
                                                    rw [if_pos rfl, if_pos (by omega), minF_next F Ks v k K HK.out, HZ.out, ← Hm0.out, ← Hmx.out]
                                                    simp
                                                  · rw [if_neg e, ← Hmx.out]
                                                    by_cases e2 : v < x
                                                    · simp [e2, show v < x + 1 by omega]
                                                    · simp [e2, show ¬ v < x + 1 by omega]
                                                have HFin := hide Hfin
                                                clear Hfin
                                                by_cases hzm : Z < m0
                                                · have HT := HFin.out _ (by have h9 := HL.out.putWant hxn Z; rw [show least2 m0 Z = Z from if_pos hzm]; exact h9)
                                                  go_wp2_with fail
                                                  go_roundg (n - (x + 1))
                                                  case measure => omega
                                                  case rel => exact ⟨x + 1, ρ, c, Mq, f, L, by omega, rfl, rfl, by go_num, HT.out⟩
                                                · have HT := HFin.out wc (by rw [show least2 m0 Z = m0 from if_neg hzm]; exact HL.out.cong (fun v _ => by by_cases e : v = x; rw [if_pos e, e, Hm0.out]; rw [if_neg e]) (fun _ _ => rfl) (fun _ _ => rfl))
                                                  go_wp2_with fail
                                                  go_roundg (n - (x + 1))
                                                  case measure => omega
                                                  case rel => exact ⟨x + 1, ρ, c, Mq, f, L, by omega, rfl, rfl, by go_num, HT.out⟩
                                      · obtain rfl : x = n := by omega
                                        go_wp2_with fail
                                        go_meet
                                        exact ⟨ρ, c, Mq, vis, Q, rfl, HL.out.cong (fun v hv => by simp [hv]) (fun _ _ => rfl) (fun _ _ => rfl)⟩
                                case rest =>
                                  as_aux_lemma =>
                                    clear HL
                                    obtain ⟨ρ, c, Mq, vis, Q, rfl, HL⟩ := hcut
                                    go_wp2_with fail
                                    go_loopg [265] lK (fun gk s265 wr => ∃ j : Nat, j ≤ lK ∧ gk = lK - j ∧ s265 = .int .i64 (j : Int) ∧ Hid (Md w3 wr b3 n (minF F (Ks.take (k + 1))) (fun v => inl K v && !inl (K.take j) v) vis ρ c Q))
                                    case atStart => exact ⟨0, Nat.zero_le _, rfl, rfl, HL.out.cong (fun _ _ => rfl) (fun v _ => by simp [inl]) (fun _ _ => rfl)⟩
                                    case round =>
                                      clear HL
                                      obtain ⟨j, hj, rfl, rfl, HL⟩ := hrel
                                      by_cases hjl : j < lK
                                      · have hl2 : (j : Int) < (lK : Int) := by omega
                                        have hjK : j < K.length := by rw [HlK.out]; exact hjl
                                        obtain ⟨u, hu⟩ : ∃ u, K[j]? = some u := ⟨K[j], List.getElem?_eq_getElem hjK⟩
                                        have hun := HKlt.out u (List.mem_of_getElem? hu)
                                        have huz : (u : Int) < (n : Int) := by omega
                                        have c1 := HL.out.far (HKc.out j u hu)
                                        have c2 := HL.out.inC.cell u hun
                                        have f2 := HL.out.inC.free u hun
                                        have HN := hide (HL.out.putIn hun false)
                                        rw [inl_unmark K j u hu] at HN
                                        clear hu hjK
                                        go_wp2_with fail
                                        go_roundg (lK - (j + 1))
                                        case measure => omega
                                        case rel => exact ⟨j + 1, by omega, rfl, by go_num, HN.out⟩
                                      · obtain rfl : j = lK := by omega
                                        go_wp2_with fail
                                        go_roundg (n - (k + 1))
                                        case measure => omega
                                        case rel => exact ⟨k + 1, ρ, c, Mq, vis, Q, by omega, rfl, rfl, by go_num, HL.out.cong (fun _ _ => rfl) (fun v _ => by rw [← HlK.out, List.take_length]; simp) (fun _ _ => rfl)⟩
                          · obtain rfl : k = n := by omega
                            go_wp2_with fail
                            go_meet
                            refine ⟨HL.out.want.congr (fun v _ => ?_), HL.out.below⟩
                            rw [← HC3.out.len, List.take_length]
                    case rest =>
                      as_aux_lemma =>
                        clear HMd
                        have HEnd := hcut
                        go_wp2_with fail
                        go_loopg [275] n (fun gk s275 wr => ∃ v : Nat, v ≤ n ∧ gk = n - v ∧ s275 = .int .i64 (v : Int) ∧ Hid (Nums wr b3 n (minF F Ks) ∧ Below b3 w3 wr))
                        case atStart => exact ⟨0, Nat.zero_le _, rfl, rfl, HEnd.out⟩
                        case round =>
                          clear HEnd
                          obtain ⟨v, hv, rfl, rfl, HR⟩ := hrel
                          by_cases hvn : v < n
                          · have hl1 : (v : Int) < (n : Int) := by omega
                            have c1 := HR.out.1.cell v hvn
                            have c2 : wr.cell? ⟨bg, v, none⟩ = some (.int .i64 (minF F Ks v)) := cell_later (by rw [hb3]; exact HR.out.2) (Hgot.out v hvn)
                            generalize minF F Ks v = z at c1 c2
                            go_upto_region 85 with fail
                            go_quiet (fail)
                            go_wp2_with fail
                            go_roundg (n - (v + 1))
                            case measure => omega
                            case rel => exact ⟨v + 1, by omega, rfl, by go_num, HR.out.1.block rfl, below_drewN HR.out.2 nq⟩
                          · obtain rfl : v = n := by omega
                            go_wp2_with fail
                            go_ret
                            exact ⟨rfl, by rw [hb]; exact HB6.out.trans (HR.out.2.mono (by have := HB6.out.size; omega))⟩
end Go.Proofs.YbulkbmsFmt
