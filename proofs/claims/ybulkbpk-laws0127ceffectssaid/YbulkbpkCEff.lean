import Derived.Test.YbulkbpkCEffP
import Derived.Deep.DeepCutAuto
import Derived.Deep.CutBlock
namespace Go.Proofs.Ybulkbpk
open Go.RowKit Go.Maps
attribute [local go_sem] eq43 guard43 guard47

set_option maxRecDepth 100000 in
set_option maxHeartbeats 16000000 in
theorem effects_any (a : Option Addr) (n c : Nat) (E : Nat → Ent) (qd qi qs qm : Int) (w : World) (hS : SrcE w a n E) (hE : ∀ j, (E j).Ok)
    (hd : 0 ≤ qd ∧ qd ≤ 255) (hi : 0 ≤ qi ∧ qi ≤ 255) (hs : 0 ≤ qs ∧ qs ≤ 255) (hm : 0 ≤ qm ∧ qm ≤ 255) :
    Calls Yba.prog 5 #[.slice a n c, .int .u8 qd, .int .u8 qi, .int .u8 qs, .int .u8 qm] w fun e w' =>
      e = .returned (.bool true) ∧ Below w.heap.size w w' := by
  obtain ⟨lit, hlit⟩ := lit_exists
  by_cases hn : n ≤ 1024
  · have HS := hide hS
    have HE := hide hE
    have HQ := hide (And.intro hd (And.intro hi (And.intro hs hm)))
    clear hS hE hd hi hs hm
    go_enter Yba.func5, Yba.ntmps5
    have hn' : ¬ ((n : Int) > 1024) := by omega
    go_wp2_with fail
    go_at_call 9
    refine (build_any a n c E w hn HS.out HE.out).mono ?_
    rintro e w1 ⟨B, H, rfl, hc, hse, hwH, hHB, hb⟩
    have HC := hide hc
    have HSE := hide hse
    have HB := hide hb
    clear hc hse hb
    go_wp2_with fail
    go_at_call 10
    refine (stat_any qd qi qs qm w1 HQ.out.1 HQ.out.2.1 HQ.out.2.2.1 HQ.out.2.2.2).mono ?_
    rintro e w2 ⟨rfl, o, rfl⟩
    obtain ⟨q, hq1, hq2⟩ : ∃ q : Id, qd % 2 = q.1.1 ∧ qi % 3 = q.1.2 := ⟨⟨(qd % 2, qi % 3), mk_ok qd qi⟩, rfl, rfl⟩
    rw [hq1, hq2]
    clear hq1 hq2
    generalize qs % 2 = s
    generalize qm % 2 = m
    have HM := hide (ms_start q s m HS.out HC.out HSE.out HB.out hwH hHB o)
    go_wp2_with fail
    go_at_call 11
    refine (pick_any a n c E _ _ _ _ _ hn HM.out.src HE.out).mono ?_
    rintro e w3 ⟨rfl, hb3⟩
    have HM3 : Hid _ := HM.out.later hb3
    clear hb3 HM HC HSE HB HS
    rw [pk_atF E q n]
    clear HQ
    obtain ⟨s0, s1, s2, s3, s4⟩ : _ ∧ _ ∧ _ ∧ _ ∧ _ := ⟨HM3.out.s0, HM3.out.s1, HM3.out.s2, HM3.out.s3, HM3.out.s4⟩
    go_wp2_with fail
    go_at_call 13
    refine (look_any lit hlit B H n E q s m w3 hn hHB HM3.out.cache HM3.out.ents).mono ?_
    rintro e w5 ⟨rfl, hA5⟩
    have HA5 := hide hA5
    clear hA5 s0 s1 s2 s3 s4
    have HOJ := hide (hit_iff E n q s m)
    generalize (hit E n q s m).isSome = ok at HOJ ⊢
    generalize (atF E n q).getD (-1) = J at HOJ ⊢
    have ht : (w5.alloc (.cells zeroA 47)).there w5.heap.size 0 (resS E (hit E n q s m)).size := by rw [resS_size]; exact there_new w5 zeroA 47
    have hsz : (Yba.prog.info? 47).map (·.size) = some (resS E (hit E n q s m)).size := by rw [resS_size]; exact size47
    have h1c := resS_one E (hit E n q s m)
    have HEF := hide (ef_start HM3.out HA5.out (resS E (hit E n q s m)).toList)
    have hcc := HEF.out.c2
    generalize hit E n q s m = h at HOJ ht hsz h1c HEF hcc HA5 ⊢
    generalize resS E h = C at ht hsz h1c HEF hcc ⊢
    clear HA5 HM3
    go_upto_region 7 with (first | refine wpList_store_mid rfl 47 (.tmp 14) (.tmp 41) rfl w5.heap.size 0 C rfl rfl ht hsz h1c ?_ | fail)
    generalize hX : World.setCells _ _ _ _ = X
    have HEX : Hid (EF w X a n B H E h) := by rw [← hX]; exact HEF.out
    clear hX HEF hcc ht hsz h1c
    have hcc := HEX.out.c2
    go_wp2_with fail
    clear hcc
    go_loopg [53] n (fun g i wr => ∃ k : Nat, k ≤ n ∧ g = n - k ∧ i = .int .i64 k ∧ Hid (EF w wr a n B H E h))
    case atStart => exact ⟨0, Nat.zero_le _, rfl, rfl, HEX.out⟩
    case round =>
      obtain ⟨k, hk, rfl, rfl, HF⟩ := hrel
      clear HEX
      by_cases hlt : k < n
      · obtain ⟨b, o', rfl, hc, hl⟩ := (HF.out.src0.later HF.out.bel) k hlt
        obtain ⟨c0, c1, c2, c3, c4, c5, c6, c7⟩ := hc
        have hcc := HF.out.c2
        have hl1 : (k : Int) < (n : Int) := by omega
        have HJ := hide (HE.out k)
        go_upto_region 13 with fail
        go_cut [18] (fun s18 wx => ∃ P : Nat, s18 = .pointer (some ⟨P, 0, none⟩) ∧ Hid (StAt wr wx P (E k)))
        case first =>
          as_aux_lemma =>
            go_region_held3 (fun w' => w'.cell? ⟨b, o' + k * 8, none⟩ = some (.int .u8 (E k).dv) ∧ w'.cell? ⟨b, o' + k * 8 + 1, none⟩ = some (.int .u8 (E k).io) ∧ w'.cell? ⟨b, o' + k * 8 + 2, none⟩ = some (.int .u8 (E k).sz) ∧ w'.cell? ⟨b, o' + k * 8 + 3, none⟩ = some (.int .u8 (E k).mt)) (simp [go_sem, World.cell?_alloc_past, *])
              (first | (go_at_call 10; refine (stat_any _ _ _ _ _ HJ.out.dv HJ.out.io HJ.out.sz HJ.out.mt).mono ?_; rintro e w' ⟨rfl, o1, rfl⟩))
            all_goals
              go_wp2_with fail
              go_meet
              first | exact ⟨_, rfl, st_new1 wr (E k) o1⟩ | exact ⟨_, rfl, st_new2 wr (E k) o1⟩
        case rest =>
          as_aux_lemma =>
            obtain ⟨P, rfl, HSt⟩ := hcut
            have HF2 : Hid (EF w wc (some ⟨b, o', none⟩) n B H E h) := HF.out.later HSt.out.bel
            have HC0 := hide (And.intro c0 (And.intro c1 (And.intro c2 (And.intro c3 (And.intro c4 (And.intro c5 (And.intro c6 c7)))))))
            have d4 := cell_later HSt.out.bel c4
            have d5 := cell_later HSt.out.bel c5
            have d6 := cell_later HSt.out.bel c6
            have d7 := cell_later HSt.out.bel c7
            clear c0 c1 c2 c3 c4 c5 c6 c7 hcc HF
            obtain ⟨_, t0, t1, t2, t3, t4⟩ := HSt.out
            have hse := HF2.out.ents k hlt
            have e0 : wc.cell? ⟨H, k * 41, none⟩ = some (.int .u64 k) := hse.cell 0 rfl
            have e1 : wc.cell? ⟨H, k * 41 + 1, none⟩ = some (.int .u64 ((E k).dv % 2)) := hse.cell 1 rfl
            have e2 : wc.cell? ⟨H, k * 41 + 2, none⟩ = some (.int .u64 ((E k).io % 3)) := hse.cell 2 rfl
            have e3 : wc.cell? ⟨H, k * 41 + 3, none⟩ = some (.int .i64 ((E k).sz % 2)) := hse.cell 3 rfl
            have e4 : wc.cell? ⟨H, k * 41 + 4, none⟩ = some (.int .i64 ((E k).mt % 2)) := hse.cell 4 rfl
            have e5 : wc.cell? ⟨H, k * 41 + 5, none⟩ = some (.int .i64 0) := hse.cell 5 rfl
            have hsum := hse.sum
            have hsl := sumA_size (E k).sm
            have hneq : ∀ w, (binOp .neq 47 (.agg (sumA (E k).sm)) (.agg (sumA (E k).sm))).run Yba.prog w = .ok (.bool false) w := neq_sum _ HJ.out.sm.1 (by have := HJ.out.sm.2; omega)
            have hsa := sum_any (E k).sm
            generalize sumA (E k).sm = C at hsum hsl hneq hsa
            have HSA := hide hsa
            have hu47 := Yba.underlying47
            have hl47 : (Yba.prog.info? 47).map (·.size) = some C.toList.length := by rw [Array.length_toList, hsl]; exact size47
            have hwk := wrap_u64 k (by omega)
            clear hse hsa hsl
            go_upto_region 14 with fail
            go_cut [110] (fun s110 wx => s110 = .bool false ∧ Hid (Below wc.heap.size wc wx))
            case first =>
              as_aux_lemma =>
                go_region_held3 (fun w' => w'.cell? ⟨H, k * 41, none⟩ = some (.int .u64 k) ∧ w'.cell? ⟨H, k * 41 + 1, none⟩ = some (.int .u64 ((E k).dv % 2)) ∧ w'.cell? ⟨H, k * 41 + 2, none⟩ = some (.int .u64 ((E k).io % 3)) ∧ w'.cell? ⟨H, k * 41 + 3, none⟩ = some (.int .i64 ((E k).sz % 2)) ∧ w'.cell? ⟨H, k * 41 + 4, none⟩ = some (.int .i64 ((E k).mt % 2)) ∧ w'.cell? ⟨H, k * 41 + 5, none⟩ = some (.int .i64 0) ∧ w'.rangeAt H (k * 41 + 6) C.toList
                    ∧ w'.cell? ⟨P, 0, none⟩ = some (.int .u64 ((E k).dv % 2)) ∧ w'.cell? ⟨P, 1, none⟩ = some (.int .u64 ((E k).io % 3)) ∧ w'.cell? ⟨P, 2, none⟩ = some (.int .i64 ((E k).sz % 2)) ∧ w'.cell? ⟨P, 3, none⟩ = some (.int .i64 ((E k).mt % 2)) ∧ w'.cell? ⟨P, 4, none⟩ = some (.int .i64 0) ∧ w'.cell? ⟨b, o' + k * 8 + 4, none⟩ = some (.int .u8 (E k).sm))
                  ((go_split_ands; (repeat' apply And.intro) <;> (with_reducible (repeat (first | assumption | refine drw ?_ | refine rng_drw ?_ | refine cell_later (by assumption) ?_ | refine rng_later (by assumption) ?_)))))
                  ((go_at_call 12; refine (HSA.out _).mono ?_; rintro e w' ⟨rfl, hbs⟩))
                go_wp2_with fail
                go_meet
                exact ⟨rfl, below2 (below_drw (Below.refl _ _)) hbs⟩
            case rest =>
              as_aux_lemma =>
                obtain ⟨rfl, HB14⟩ := hcut
                have HF3 : Hid (EF w wc (some ⟨b, o', none⟩) n B H E h) := HF2.out.later HB14.out
                have HS3 : Hid (StAt wr wc P (E k)) := HSt.out.later HB14.out
                have d5' := cell_later HB14.out d5
                have d6' := cell_later HB14.out d6
                have d7' := cell_later HB14.out d7
                clear d4 d5 d6 d7 t0 t1 t2 t3 t4 e0 e1 e2 e3 e4 e5 hsum hneq HSA hu47 hl47 hwk HSt HF2 HB14
                have hse := HF3.out.ents k hlt
                have e38 : wc.cell? ⟨H, k * 41 + 38, none⟩ = some (.int .i64 (plF E h k)) := hse.cell 38 rfl
                have e39 : wc.cell? ⟨H, k * 41 + 39, none⟩ = some (.bool (usF E h k)) := hse.cell 39 rfl
                clear hse
                have HUS := hide (us_of (E := E) (HOJ.out k))
                have HPL := hide (pl_of (E := E) (HOJ.out k))
                have hwp := wrap_i64 (E k).pl HJ.out.pl.1 HJ.out.pl.2
                go_upto_region 16 with fail
                go_cut [19] (fun s19 wx => s19 = .bool (usF E h k) ∧ wx = wc)
                case first =>
                  as_aux_lemma =>
                    by_cases hkJ : (k : Int) = J
                    · have hb : ((k : Int) == J) = true := by simpa using hkJ
                      clear hkJ
                      cases hu : (E k).us <;> rw [hu] at d6' <;> cases ok
                      all_goals
                        go_wp2_with fail
                        go_meet
                        exact ⟨by rw [HUS.out, hu, hb]; rfl, rfl⟩
                    · have hb : ((k : Int) == J) = false := by simpa using hkJ
                      clear hkJ
                      cases hu : (E k).us <;> rw [hu] at d6'
                      all_goals
                        go_wp2_with fail
                        go_meet
                        exact ⟨by rw [HUS.out, hu, hb]; rfl, rfl⟩
                case rest =>
                  as_aux_lemma =>
                    obtain ⟨rfl, rfl⟩ := hcut
                    go_upto_region 20 with fail
                    go_cut [145] (fun s145 wx => s145 = .bool ((((k : Int) == J) && ok) && decide ((E k).pl < 0)) ∧ wx = wc)
                    case first =>
                      as_aux_lemma =>
                        by_cases hkJ : (k : Int) = J
                        · have hb : ((k : Int) == J) = true := by simpa using hkJ
                          clear hkJ
                          cases ok
                          · go_wp2_with fail
                            go_meet
                            exact ⟨by rw [hb]; rfl, rfl⟩
                          · go_wp2_with fail
                            go_meet
                            exact ⟨by rw [hb]; rfl, rfl⟩
                        · have hb : ((k : Int) == J) = false := by simpa using hkJ
                          clear hkJ
                          go_wp2_with fail
                          go_meet
                          exact ⟨by rw [hb]; rfl, rfl⟩
                    case rest =>
                      as_aux_lemma =>
                        obtain ⟨rfl, rfl⟩ := hcut
                        generalize hbb : ((((k : Int) == J) && ok) && decide ((E k).pl < 0)) = bb at HPL ⊢
                        clear hbb
                        go_upto_if 145 with fail
                        go_cut [20] (fun s20 wx => s20 = .int .i64 (plF E h k) ∧ wx = wc)
                        case first =>
                          as_aux_lemma =>
                            cases bb
                            · have hpl : plF E h k = (E k).pl := HPL.out
                              go_wp2_with fail
                              go_meet
                              exact ⟨by rw [HPL.out]; rfl, rfl⟩
                            · go_wp2_with fail
                              go_meet
                              exact ⟨by rw [HPL.out]; rfl, rfl⟩
                        case rest =>
                          as_aux_lemma =>
                            obtain ⟨rfl, rfl⟩ := hcut
                            go_upto_if 158 with fail
                            clear d5' d6' d7' e38 e39 HUS HPL hwp
                            go_cut [21] (fun s21 wx => s21 = .bool (gsF E n k) ∧ Hid (Below wc.heap.size wc wx))
                            case first =>
                              as_aux_lemma =>
                                cases hg : (E k).gn
                                · have HG := hide hg
                                  clear hg
                                  go_wp2_with fail
                                  go_loopg [21, 22] (n - (k + 1)) (fun g s21 s22 wx => ∃ m : Nat, k + 1 ≤ m ∧ m ≤ n ∧ g = n - m ∧ s21 = .bool false ∧ s22 = .int .i64 m ∧ Hid (Below wc.heap.size wc wx) ∧ Hid (∀ i, k < i → i < m → ¬ ((E i).gn = false ∧ (idOf (E i)).1 = (idOf (E k)).1)))
                                  case atStart => exact ⟨k + 1, Nat.le_refl _, by omega, rfl, rfl, by go_num, Below.refl _ _, fun i h1 h2 => by omega⟩
                                  case round =>
                                    obtain ⟨m, hm1, hm2, rfl, rfl, rfl, HBm, HNo⟩ := hrel
                                    by_cases hmn : m < n
                                    · have HFm : Hid (EF w wr (some ⟨b, o', none⟩) n B H E h) := HF3.out.later HBm.out
                                      have HSm := hide (HS3.out.later HBm.out)
                                      obtain ⟨b1, o1, he1, hcm, _⟩ := (HFm.out.src0.later HFm.out.bel) m hmn
                                      injection he1 with he1
                                      injection he1 with he1 he2 _
                                      subst he1
                                      subst he2
                                      obtain ⟨c0, c1, c2, c3, _, c5, _, _⟩ := hcm
                                      have hl1 : (m : Int) < (n : Int) := by omega
                                      have HJm := hide (HE.out m)
                                      go_upto_region 29 with fail
                                      go_cut [23] (fun s23 wx => ∃ P2 : Nat, s23 = .pointer (some ⟨P2, 0, none⟩) ∧ Hid (StAt wr wx P2 (E m)))
                                      case first =>
                                        as_aux_lemma =>
                                          go_region_held3 (fun w' => w'.cell? ⟨b, o' + m * 8, none⟩ = some (.int .u8 (E m).dv) ∧ w'.cell? ⟨b, o' + m * 8 + 1, none⟩ = some (.int .u8 (E m).io) ∧ w'.cell? ⟨b, o' + m * 8 + 2, none⟩ = some (.int .u8 (E m).sz) ∧ w'.cell? ⟨b, o' + m * 8 + 3, none⟩ = some (.int .u8 (E m).mt)) (simp [go_sem, World.cell?_alloc_past, *])
                                            (first | (go_at_call 10; refine (stat_any _ _ _ _ _ HJm.out.dv HJm.out.io HJm.out.sz HJm.out.mt).mono ?_; rintro e w' ⟨rfl, o1, rfl⟩))
                                          all_goals
                                            go_wp2_with fail
                                            go_meet
                                            first | exact ⟨_, rfl, st_new1 wr (E m) o1⟩ | exact ⟨_, rfl, st_new2 wr (E m) o1⟩
                                      case rest =>
                                        as_aux_lemma =>
                                          obtain ⟨P2, rfl, HSx⟩ := hcut
                                          have f5 := cell_later HSx.out.bel c5
                                          obtain ⟨_, v0, v1, _, _, _⟩ := HSx.out
                                          have t0 := cell_later HSx.out.bel HSm.out.t0
                                          have t1 := cell_later HSx.out.bel HSm.out.t1
                                          clear c0 c1 c2 c3 c5
                                          cases hgm : (E m).gn
                                          · rw [hgm] at f5
                                            by_cases h1 : (E m).dv % 2 = (E k).dv % 2
                                            · have h1' : ((E m).dv % 2 == (E k).dv % 2) = true := by simpa using h1
                                              by_cases h2 : (E m).io % 3 = (E k).io % 3
                                              · have h2' : ((E m).io % 3 == (E k).io % 3) = true := by simpa using h2
                                                have HT := hide (gsF_true E k m (by omega) hgm (Prod.ext h1 h2) n hmn)
                                                clear h1 h2 hgm
                                                go_wp2_with fail
                                                go_meet
                                                exact ⟨by rw [HT.out], below2 HBm.out HSx.out.bel⟩
                                              · have h2' : ((E m).io % 3 == (E k).io % 3) = false := by simpa using h2
                                                have HX := hide (show ¬ ((E m).gn = false ∧ (idOf (E m)).1 = (idOf (E k)).1) from fun e => h2 (congrArg Prod.snd e.2))
                                                clear h1 h2 hgm
                                                go_wp2_with fail
                                                go_roundg (n - (m + 1))
                                                case measure => omega
                                                case rel => exact ⟨m + 1, by omega, by omega, rfl, rfl, by go_num, below2 HBm.out HSx.out.bel, fun i h1 h2 => by
                                                  by_cases e : i = m
                                                  · subst e; exact HX.out
                                                  · exact HNo.out i h1 (by omega)⟩
                                            · have h1' : ((E m).dv % 2 == (E k).dv % 2) = false := by simpa using h1
                                              have HX := hide (show ¬ ((E m).gn = false ∧ (idOf (E m)).1 = (idOf (E k)).1) from fun e => h1 (congrArg Prod.fst e.2))
                                              clear h1 hgm
                                              go_wp2_with fail
                                              go_roundg (n - (m + 1))
                                              case measure => omega
                                              case rel => exact ⟨m + 1, by omega, by omega, rfl, rfl, by go_num, below2 HBm.out HSx.out.bel, fun i h1 h2 => by
                                                by_cases e : i = m
                                                · subst e; exact HX.out
                                                · exact HNo.out i h1 (by omega)⟩
                                          · rw [hgm] at f5
                                            have HX := hide (show ¬ ((E m).gn = false ∧ (idOf (E m)).1 = (idOf (E k)).1) from fun e => by rw [hgm] at e; exact absurd e.1 (by simp))
                                            clear hgm
                                            go_wp2_with fail
                                            go_roundg (n - (m + 1))
                                            case measure => omega
                                            case rel => exact ⟨m + 1, by omega, by omega, rfl, rfl, by go_num, below2 HBm.out HSx.out.bel, fun i h1 h2 => by
                                              by_cases e : i = m
                                              · subst e; exact HX.out
                                              · exact HNo.out i h1 (by omega)⟩
                                    · obtain rfl : m = n := by omega
                                      go_wp2_with fail
                                      go_meet
                                      exact ⟨by rw [gsF_false E k HG.out m HNo.out], HBm.out⟩
                                · have HG := hide hg
                                  clear hg
                                  go_wp2_with fail
                                  go_meet
                                  exact ⟨by rw [gsF_own E n k HG.out], Below.refl _ _⟩
                            case rest =>
                              as_aux_lemma =>
                                obtain ⟨rfl, HB21⟩ := hcut
                                have HF4 : Hid (EF w wc (some ⟨b, o', none⟩) n B H E h) := HF3.out.later HB21.out
                                have e40 : wc.cell? ⟨H, k * 41 + 40, none⟩ = some (.bool (gsF E n k)) := (HF4.out.ents k hlt).cell 40 rfl
                                clear HF3 HB21 HS3 HC0
                                go_wp2_with fail
                                go_roundg (n - (k + 1))
                                case measure => omega
                                case rel => exact ⟨k + 1, by omega, rfl, by go_num, HF4.out⟩
      · obtain rfl : k = n := by omega
        go_wp2_with fail
        exact bodyPost_ret (v := .bool true) (by simp [results_tmp Yba.results5]) rfl ⟨rfl, HF.out.bel⟩
  · go_enter Yba.func5, Yba.ntmps5
    have hn' : ((n : Int) > 1024) := by omega
    go_wp2_with fail
    exact bodyPost_ret (v := .bool true) (by simp [results_tmp Yba.results5]) rfl ⟨rfl, Below.refl _ _⟩
end Go.Proofs.Ybulkbpk
