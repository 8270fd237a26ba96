import Derived.Test.YbulkbpkCLook
namespace Go.Proofs.Ybulkbpk
open Go.RowKit Go.Maps
attribute [local go_sem] eq43 guard43 guard47

/-- What stands before the look-up. -/
structure MS (w Z : World) (a : Option Addr) (n B H T : Nat) (E : Nat → Ent) (q : Id) (s m : Int) : Prop where
  src0 : SrcE w a n E
  cache : IsCache 0 Z B H n none
  ents : ∀ j, j < n → SE Z H j (E j) (E j).pl (E j).us (E j).gn
  s0 : Z.cell? ⟨T, 0, none⟩ = some (.int .u64 q.1.1)
  s1 : Z.cell? ⟨T, 1, none⟩ = some (.int .u64 q.1.2)
  s2 : Z.cell? ⟨T, 2, none⟩ = some (.int .i64 s)
  s3 : Z.cell? ⟨T, 3, none⟩ = some (.int .i64 m)
  s4 : Z.cell? ⟨T, 4, none⟩ = some (.int .i64 0)
  bel : Below w.heap.size w Z
  hT : B < T
  hHB : H < B
  hwH : w.heap.size ≤ H
theorem MS.src {w Z : World} {a : Option Addr} {n B H T : Nat} {E : Nat → Ent} {q : Id} {s m : Int} (h : MS w Z a n B H T E q s m) : SrcE Z a n E := h.src0.later h.bel
theorem MS.later {w Z Z' : World} {a : Option Addr} {n B H T : Nat} {E : Nat → Ent} {q : Id} {s m : Int} (h : MS w Z a n B H T E q s m) (hb : Below Z.heap.size Z Z') : MS w Z' a n B H T E q s m :=
  ⟨h.src0, h.cache.below hb h.cache.lt, fun j hj => (h.ents j hj).below hb (h.ents j hj).lt, cell_later hb h.s0, cell_later hb h.s1, cell_later hb h.s2, cell_later hb h.s3, cell_later hb h.s4,
    below2 h.bel hb, h.hT, h.hHB, h.hwH⟩
theorem ms_start {w w1 : World} {a : Option Addr} {n B H : Nat} {E : Nat → Ent} (q : Id) (s m : Int) (hS : SrcE w a n E) (hc : IsCache 0 w1 B H n none) (hse : ∀ j, j < n → SE w1 H j (E j) (E j).pl (E j).us (E j).gn) (hb : Below w.heap.size w w1) (hwH : w.heap.size ≤ H) (hHB : H < B) (o : Obj) :
    MS w ((w1.alloc o).alloc (.cells #[.int .u64 q.1.1, .int .u64 q.1.2, .int .i64 s, .int .i64 m, .int .i64 0] 43)) a n B H (w1.heap.size + 1) E q s m := by
  have hbw : Below w1.heap.size w1 ((w1.alloc o).alloc (.cells #[.int .u64 q.1.1, .int .u64 q.1.2, .int .i64 s, .int .i64 m, .int .i64 0] 43)) := below_al (below_al (Below.refl _ _) _) _
  have hlt := hc.lt
  refine ⟨hS, hc.below hbw hc.lt, fun j hj => (hse j hj).below hbw (hse j hj).lt, ?_, ?_, ?_, ?_, ?_, below2 hb hbw, by omega, hHB, hwH⟩ <;> go_simp

/-- ... and the wanted sum's variable. -/
structure MR (Z : World) (B H T R : Nat) (C : Array Value) : Prop where
  there : Z.there R 0 32
  rng : Z.rangeAt R 0 C.toList
  hT : T < R
  hB : B < R
  hH : H < R
theorem MR.later {Z Z' : World} {B H T R : Nat} {C : Array Value} (h : MR Z B H T R C) (hb : Below Z.heap.size Z Z') : MR Z' B H T R C := ⟨there_later hb h.there, fun j v hv => cell_later hb (h.rng j v hv), h.hT, h.hB, h.hH⟩
theorem MR.start {w Z : World} {a : Option Addr} {n B H T : Nat} {E : Nat → Ent} {q : Id} {s m : Int} (h : MS w Z a n B H T E q s m) : MR (Z.alloc (.cells zeroA 47)) B H T Z.heap.size zeroA := by
  have h1 := World.block_lt_of_cell? Z _ h.s0
  have h2 := h.hT
  have h3 := h.hHB
  have h1' : T < Z.heap.size := h1
  exact ⟨there_new Z zeroA 47, range_new Z zeroA 47, h1', by omega, by omega⟩
theorem MS.wrote {w Z : World} {a : Option Addr} {n B H T R : Nat} {E : Nat → Ent} {q : Id} {s m : Int} {C : Array Value} (h : MS w Z a n B H T E q s m) (hr : MR Z B H T R C) (cs : List Value) : MS w (Z.setCells R 0 cs) a n B H T E q s m := by
  have hw := wrote_setCells (b := R) cs 0 Z (Wrote.refl R Z)
  have h1 := hr.hT
  have h2 := hr.hB
  have h3 := hr.hH
  have h4 := h.hwH
  have hT := hw.block T (by omega)
  exact ⟨h.src0, h.cache.block (hw.block B (by omega)) (by rw [hw.size]; exact Nat.le_refl _), fun j hj => (h.ents j hj).block (hw.block H (by omega)),
    (World.cell?_of_block (w := Z) hT).trans h.s0, (World.cell?_of_block (w := Z) hT).trans h.s1, (World.cell?_of_block (w := Z) hT).trans h.s2, (World.cell?_of_block (w := Z) hT).trans h.s3, (World.cell?_of_block (w := Z) hT).trans h.s4,
    below_setCells h.bel (by omega) _ _, h.hT, h.hHB, h.hwH⟩
theorem MR.wrote {Z : World} {B H T R : Nat} {C : Array Value} (h : MR Z B H T R C) (C' : Array Value) (hC : C'.size = 32) : MR (Z.setCells R 0 C'.toList) B H T R C' :=
  ⟨World.there_setCells h.there _ _ _, World.rangeAt_setCells_same _ _ _ _ (by rw [Array.length_toList, hC]; exact h.there), h.hT, h.hB, h.hH⟩
theorem below_drw {B : Nat} {w a : World} (h : Below B w a) : Below B w a.drew := ⟨h.os, h.tape, h.output, h.size, h.block⟩
theorem resS_eq (E : Nat → Ent) (hE : ∀ j, (E j).Ok) (h : Option Nat) (w : World) : (binOp .eql 47 (.agg (resS E h)) (.agg (resS E h))).run Yba.prog w = .ok (.bool true) w := by
  cases h with
  | none => exact eql_zero w
  | some j => exact eql_sum _ (hE j).sm.1 (by have := (hE j).sm.2; omega) w

theorem But.rng {H B b o : Nat} {w x : World} {cs : List Value} (h : But H B w x) (hc : w.rangeAt b o cs) (h1 : b ≠ H) (h2 : b ≠ B) : x.rangeAt b o cs := fun j v hv => h.cell (hc j v hv) h1 h2
/-- The two sums that are compared at the end. -/
structure Fin (w Z : World) (R R2 : Nat) (C : Array Value) : Prop where
  r1 : Z.rangeAt R2 0 C.toList
  r2 : Z.rangeAt R 0 C.toList
  bel : Below w.heap.size w Z
theorem fin_of {w Y Z : World} {a : Option Addr} {n B H T R : Nat} {E : Nat → Ent} {q : Id} {s m : Int} {h : Option Nat} {C : Array Value} (hC : C.size = 32) (hM : MS w Y a n B H T E q s m) (hR : MR Y B H T R C) (hA : Aft 0 Y Z B H n E h) :
    Fin w ((Z.alloc (.cells zeroA 47)).setCells Z.heap.size 0 C.toList) R Z.heap.size C := by
  have h1 := hM.bel
  have h2 := hA.bel
  have e1 := hM.hHB
  have e2 := hM.hwH
  have e3 := hR.hB
  have e4 := hR.hH
  have hl : C.toList.length = 32 := by rw [Array.length_toList]; exact hC
  have hw : Below w.heap.size w Z := by
    have hb2 : Below w.heap.size Y Z := h2.below h1.size (by omega) (by omega)
    exact h1.trans hb2
  have hRlt : R < Z.heap.size := by
    obtain ⟨t1, _⟩ := h2.there hR.there (by omega) (by omega) 0 (by omega)
    obtain ⟨u, hu⟩ := Option.isSome_iff_exists.1 t1
    exact World.block_lt_of_cell? Z _ hu
  refine ⟨World.rangeAt_setCells_same _ _ _ _ (by rw [hl]; exact there_new Z zeroA 47), World.rangeAt_setCells_apart (fun j v hv => al (h2.rng hR.rng (by omega) (by omega) j v hv) _) _ _ _ (Or.inl (by omega)), below_setCells (below_al hw _) hw.size _ _⟩

/-- A load under a guard that stands. -/
theorem wpList_load_gd {P : Program} {ops : Array Oper} {rest : List Oper} {op : Oper} {a : Act} {w : World} {Q : Exit → Act → World → Prop} (hw : Region.wanted op (yielded ops a.tmps) = true) (ty : TypeId) (x : Operand) (ho : op.op = .load ty x)
    (b o : Nat) (hx : a.eval x = .pointer (some ⟨b, o, none⟩)) (cs : List Value) (d : TypeDesc) (hc : w.rangeAt b o cs)
    (hu : P.underlying ty = some d) (hd : d.isRow = true) (hi : (P.info? ty).map (·.size) = some cs.length)
    (h : wpList P ops Q rest (a.put op.dst (.agg cs.toArray)) w) : wpList P ops Q (op :: rest) a w := by
  show if _ then _ else _
  rw [if_pos hw]
  exact .inl (wp_load_mid ty x ho b o hx cs d hc hu hd hi h)

set_option maxRecDepth 100000 in
set_option maxHeartbeats 2000000 in
theorem model_any (a : Option Addr) (n c : Nat) (E : Nat → Ent) (qd qi qs qm : Int) (w : World) (hS : SrcE w a n E) (hE : ∀ j, (E j).Ok)
    (hd : 0 ≤ qd ∧ qd ≤ 255) (hi : 0 ≤ qi ∧ qi ≤ 255) (hs : 0 ≤ qs ∧ qs ≤ 255) (hm : 0 ≤ qm ∧ qm ≤ 255) :
    Calls Yba.prog 4 #[.slice a n c, .int .u8 qd, .int .u8 qi, .int .u8 qs, .int .u8 qm] w fun e w' =>
      e = .returned (.bool true) ∧ Below w.heap.size w w' := by
  obtain ⟨lit, hlit⟩ := lit_exists
  by_cases hn : n ≤ 1024
  · have HS := hide hS
    have HE := hide hE
    have HQ := hide (And.intro hd (And.intro hi (And.intro hs hm)))
    clear hS hE hd hi hs hm
    go_enter Yba.func4, Yba.ntmps4
    have hn' : ¬ ((n : Int) > 1024) := by omega
    go_wp2_with fail
    go_at_call 9
    refine (build_any a n c E w hn HS.out HE.out).mono ?_
    rintro e w1 ⟨B, H, rfl, hc, hse, hwH, hHB, hb⟩
    have HC := hide hc
    have HSE := hide hse
    have HB := hide hb
    clear hc hse hb
    go_wp2_with fail
    go_at_call 10
    refine (stat_any qd qi qs qm w1 HQ.out.1 HQ.out.2.1 HQ.out.2.2.1 HQ.out.2.2.2).mono ?_
    rintro e w2 ⟨rfl, o, rfl⟩
    obtain ⟨q, hq1, hq2⟩ : ∃ q : Id, qd % 2 = q.1.1 ∧ qi % 3 = q.1.2 := ⟨⟨(qd % 2, qi % 3), mk_ok qd qi⟩, rfl, rfl⟩
    rw [hq1, hq2]
    clear hq1 hq2
    generalize qs % 2 = s
    generalize qm % 2 = m
    have HM := hide (ms_start q s m HS.out HC.out HSE.out HB.out hwH hHB o)
    go_wp2_with fail
    go_at_call 11
    refine (pick_any a n c E _ _ _ _ _ hn HM.out.src HE.out).mono ?_
    rintro e w3 ⟨rfl, hb3⟩
    have HM3 : Hid _ := HM.out.later hb3
    clear hb3 HM HC HSE HB HS
    rw [pk_atF E q n]
    clear HQ
    generalize hat : atF E n q = at0
    have HA := hide hat
    clear hat
    go_wp2_with fail
    have HM4 : Hid (MS w (w3.alloc (.cells zeroA 47)) a n B H (w1.heap.size + 1) E q s m) := HM3.out.later (below_al (Below.refl _ _) _)
    have HR : Hid (MR (w3.alloc (.cells zeroA 47)) B H (w1.heap.size + 1) w3.heap.size zeroA) := MR.start HM3.out
    clear HM3
    rw [show w3.alloc (.cells #[.int .u8 0, .int .u8 0, .int .u8 0, .int .u8 0, .int .u8 0, .int .u8 0, .int .u8 0, .int .u8 0, .int .u8 0, .int .u8 0, .int .u8 0, .int .u8 0, .int .u8 0, .int .u8 0, .int .u8 0, .int .u8 0, .int .u8 0, .int .u8 0, .int .u8 0, .int .u8 0, .int .u8 0, .int .u8 0, .int .u8 0, .int .u8 0, .int .u8 0, .int .u8 0, .int .u8 0, .int .u8 0, .int .u8 0, .int .u8 0, .int .u8 0, .int .u8 0] 47) = w3.alloc (.cells zeroA 47) from rfl]
    generalize w3.alloc (.cells zeroA 47) = Z at HM4 HR ⊢
    generalize w3.heap.size = R at HR ⊢
    generalize w1.heap.size + 1 = T at HM4 HR ⊢
    cases at0 with
    | none =>
      have hh : hit E n q s m = none := by simp only [hit, HA.out]
      have HH := hide hh
      clear hh
      go_wp2_with fail
      go_quiet (fail)
      have HM5 : Hid (MS w (Z.drewN nq) a n B H T E q s m) := HM4.out.later (below_drewN (Below.refl _ _) nq)
      have HR5 : Hid (MR (Z.drewN nq) B H T R zeroA) := HR.out.later (below_drewN (Below.refl _ _) nq)
      clear HM4 HR
      generalize Z.drewN nq = Y at HM5 HR5 ⊢
      obtain ⟨s0, s1, s2, s3, s4⟩ : _ ∧ _ ∧ _ ∧ _ ∧ _ := ⟨HM5.out.s0, HM5.out.s1, HM5.out.s2, HM5.out.s3, HM5.out.s4⟩
      have HR6 : Hid (MR Y B H T R (resS E (hit E n q s m))) := by rw [HH.out]; exact HR5.out
      have hok : (hit E n q s m).isSome = false := by rw [HH.out]; rfl
      clear HR5 HH
      go_wp2_with fail
      go_at_call 13
      refine (look_any lit hlit B H n E q s m Y hn hHB HM5.out.cache HM5.out.ents).mono ?_
      rintro e w5 ⟨rfl, hA5⟩
      rw [hok]
      have HF := hide (fin_of (resS_size _ _) HM5.out HR6.out hA5)
      have ht : (w5.alloc (.cells zeroA 47)).there w5.heap.size 0 (resS E (hit E n q s m)).size := by rw [resS_size]; exact there_new w5 zeroA 47
      have hsz : (Yba.prog.info? 47).map (·.size) = some (resS E (hit E n q s m)).size := by rw [resS_size]; exact size47
      have h1c := resS_one E (hit E n q s m)
      have heq := resS_eq E HE.out (hit E n q s m)
      clear hA5 s0 s1 s2 s3 s4 HM5 HR6 HA hok
      generalize resS E (hit E n q s m) = C at HF ht hsz h1c heq ⊢
      have hr1 := HF.out.r1
      have hr2 := HF.out.r2
      have hbl := HF.out.bel
      have hl47 : (Yba.prog.info? 47).map (·.size) = some C.toList.length := by rw [Array.length_toList]; exact hsz
      clear HF
      go_wp2_with (first | refine wpList_store_mid rfl 47 (.tmp 16) (.tmp 68) rfl w5.heap.size 0 C rfl rfl ht hsz h1c ?_ | refine wpList_load_gd (by rfl) 47 (.tmp 16) rfl w5.heap.size 0 rfl C.toList (.array 32 5) hr1 Yba.underlying47 rfl hl47 ?_ | refine wpList_load_gd (by rfl) 47 (.tmp 15) rfl R 0 rfl C.toList (.array 32 5) hr2 Yba.underlying47 rfl hl47 ?_ | fail)
      exact bodyPost_ret (v := .bool true) (by simp [results_tmp Yba.results4]) rfl ⟨rfl, hbl⟩
    | some x =>
      obtain ⟨j, rfl, hj, hg, hid, _⟩ := atF_some E q n HA.out
      obtain ⟨b, o', rfl, hc, hl⟩ := HM4.out.src j hj
      obtain ⟨c0, c1, c2, c3, c4, _, _, _⟩ := hc
      obtain ⟨s0, s1, s2, s3, s4⟩ : _ ∧ _ ∧ _ ∧ _ ∧ _ := ⟨HM4.out.s0, HM4.out.s1, HM4.out.s2, HM4.out.s3, HM4.out.s4⟩
      have i1 : (E j).dv % 2 = q.1.1 := by rw [← hid]; rfl
      have i2 : (E j).io % 3 = q.1.2 := by rw [← hid]; rfl
      have HJ := hide (HE.out j)
      by_cases q1 : (E j).sz % 2 = s
      · by_cases q2 : (E j).mt % 2 = m
        · have hh : hit E n q s m = some j := by simp only [hit, HA.out, Int.toNat_natCast]; exact if_pos ⟨q1, q2⟩
          have HH := hide hh
          clear hh
          go_wp2_with fail
          go_region_held3 (fun w' => w'.cell? ⟨b, o' + j * 8, none⟩ = some (.int .u8 (E j).dv) ∧ w'.cell? ⟨b, o' + j * 8 + 1, none⟩ = some (.int .u8 (E j).io) ∧ w'.cell? ⟨b, o' + j * 8 + 2, none⟩ = some (.int .u8 (E j).sz) ∧ w'.cell? ⟨b, o' + j * 8 + 3, none⟩ = some (.int .u8 (E j).mt) ∧ w'.cell? ⟨T, 0, none⟩ = some (.int .u64 q.1.1) ∧ w'.cell? ⟨T, 1, none⟩ = some (.int .u64 q.1.2) ∧ w'.cell? ⟨T, 2, none⟩ = some (.int .i64 s) ∧ w'.cell? ⟨T, 3, none⟩ = some (.int .i64 m) ∧ w'.cell? ⟨T, 4, none⟩ = some (.int .i64 0))
            ((go_split_ands; (repeat' apply And.intro) <;> (with_reducible (repeat (first | assumption | refine drw ?_ | refine al ?_ _)))))
            ((go_at_call 10; refine (stat_any _ _ _ _ _ HJ.out.dv HJ.out.io HJ.out.sz HJ.out.mt).mono ?_; rintro e w' ⟨rfl, o2, rfl⟩))
          have HM5 : Hid (MS w (Z.alloc o2).drew (some ⟨b, o', none⟩) n B H T E q s m) := HM4.out.later (below_drw (below_al (Below.refl _ _) _))
          have HR5 : Hid (MR (Z.alloc o2).drew B H T R zeroA) := HR.out.later (below_drw (below_al (Below.refl _ _) _))
          clear HM4 HR s0 s1 s2 s3 s4 c0 c1 c2 c3 c4
          generalize (Z.alloc o2).drew = Y at HM5 HR5 ⊢
          have c4 : Y.cell? ⟨b, o' + j * 8 + 4, none⟩ = some (.int .u8 (E j).sm) := by
            obtain ⟨b1, o1, he, hc1, _⟩ := HM5.out.src j hj
            injection he with he
            injection he with he1 he2 _
            subst he1; subst he2
            exact hc1.c4
          go_wp2_with fail
          go_at_call 12
          refine (sum_any _ _).mono ?_
          rintro e w6 ⟨rfl, hb6⟩
          have HM6 : Hid _ := HM5.out.later hb6
          have HR6 : Hid _ := HR5.out.later hb6
          have HM7 := hide (HM6.out.wrote HR6.out (sumA (E j).sm).toList)
          have HR7 := hide (HR6.out.wrote (sumA (E j).sm) rfl)
          have hst : w6.there R 0 (sumA (E j).sm).size := HR6.out.there
          have hszj : (Yba.prog.info? 47).map (·.size) = some (sumA (E j).sm).size := size47
          have h1j := sumA_one (E j).sm
          clear HM5 HR5 c4 HM6 HR6
          generalize hC : sumA (E j).sm = Cj at HM7 HR7 hst hszj h1j ⊢
          have HCe := hide hC
          clear hC
          obtain ⟨s0, s1, s2, s3, s4⟩ : _ ∧ _ ∧ _ ∧ _ ∧ _ := ⟨HM7.out.s0, HM7.out.s1, HM7.out.s2, HM7.out.s3, HM7.out.s4⟩
          go_wp2_with (first | refine wpList_store_mid rfl 47 (.tmp 15) (.tmp 63) rfl R 0 Cj rfl rfl hst hszj h1j ?_ | fail)
          have HM5 := HM7
          have HR5 : Hid (MR (w6.setCells R 0 Cj.toList) B H T R (resS E (some j))) := by
            show MR (w6.setCells R 0 Cj.toList) B H T R (sumA (E j).sm)
            rw [HCe.out]; exact HR7.out
          clear HM7 HR7
          generalize w6.setCells R 0 Cj.toList = Y at s0 s1 s2 s3 s4 HM5 HR5 ⊢
          have HR6 : Hid (MR Y B H T R (resS E (hit E n q s m))) := by rw [HH.out]; exact HR5.out
          have hok : (hit E n q s m).isSome = true := by rw [HH.out]; rfl
          clear HR5 HH
          go_at_call 13
          refine (look_any lit hlit B H n E q s m Y hn hHB HM5.out.cache HM5.out.ents).mono ?_
          rintro e w5 ⟨rfl, hA5⟩
          rw [hok]
          have HF := hide (fin_of (resS_size _ _) HM5.out HR6.out hA5)
          have ht : (w5.alloc (.cells zeroA 47)).there w5.heap.size 0 (resS E (hit E n q s m)).size := by rw [resS_size]; exact there_new w5 zeroA 47
          have hsz : (Yba.prog.info? 47).map (·.size) = some (resS E (hit E n q s m)).size := by rw [resS_size]; exact size47
          have h1c := resS_one E (hit E n q s m)
          have heq := resS_eq E HE.out (hit E n q s m)
          clear hA5 s0 s1 s2 s3 s4 HM5 HR6 HA hok
          generalize resS E (hit E n q s m) = C at HF ht hsz h1c heq ⊢
          have hr1 := HF.out.r1
          have hr2 := HF.out.r2
          have hbl := HF.out.bel
          have hl47 : (Yba.prog.info? 47).map (·.size) = some C.toList.length := by rw [Array.length_toList]; exact hsz
          clear HF
          go_wp2_with (first | refine wpList_store_mid rfl 47 (.tmp 16) (.tmp 68) rfl w5.heap.size 0 C rfl rfl ht hsz h1c ?_ | refine wpList_load_gd (by rfl) 47 (.tmp 16) rfl w5.heap.size 0 rfl C.toList (.array 32 5) hr1 Yba.underlying47 rfl hl47 ?_ | refine wpList_load_gd (by rfl) 47 (.tmp 15) rfl R 0 rfl C.toList (.array 32 5) hr2 Yba.underlying47 rfl hl47 ?_ | fail)
          exact bodyPost_ret (v := .bool true) (by simp [results_tmp Yba.results4]) rfl ⟨rfl, hbl⟩
        · have hh : hit E n q s m = none := by simp only [hit, HA.out, Int.toNat_natCast]; exact if_neg (fun x => q2 x.2)
          have HH := hide hh
          clear hh
          go_wp2_with fail
          go_region_held3 (fun w' => w'.cell? ⟨b, o' + j * 8, none⟩ = some (.int .u8 (E j).dv) ∧ w'.cell? ⟨b, o' + j * 8 + 1, none⟩ = some (.int .u8 (E j).io) ∧ w'.cell? ⟨b, o' + j * 8 + 2, none⟩ = some (.int .u8 (E j).sz) ∧ w'.cell? ⟨b, o' + j * 8 + 3, none⟩ = some (.int .u8 (E j).mt) ∧ w'.cell? ⟨T, 0, none⟩ = some (.int .u64 q.1.1) ∧ w'.cell? ⟨T, 1, none⟩ = some (.int .u64 q.1.2) ∧ w'.cell? ⟨T, 2, none⟩ = some (.int .i64 s) ∧ w'.cell? ⟨T, 3, none⟩ = some (.int .i64 m) ∧ w'.cell? ⟨T, 4, none⟩ = some (.int .i64 0))
            ((go_split_ands; (repeat' apply And.intro) <;> (with_reducible (repeat (first | assumption | refine drw ?_ | refine al ?_ _)))))
            ((go_at_call 10; refine (stat_any _ _ _ _ _ HJ.out.dv HJ.out.io HJ.out.sz HJ.out.mt).mono ?_; rintro e w' ⟨rfl, o2, rfl⟩))
          have HM5 : Hid (MS w (Z.alloc o2).drew (some ⟨b, o', none⟩) n B H T E q s m) := HM4.out.later (below_drw (below_al (Below.refl _ _) _))
          have HR5 : Hid (MR (Z.alloc o2).drew B H T R zeroA) := HR.out.later (below_drw (below_al (Below.refl _ _) _))
          clear HM4 HR s0 s1 s2 s3 s4 c0 c1 c2 c3 c4
          generalize (Z.alloc o2).drew = Y at HM5 HR5 ⊢
          obtain ⟨s0, s1, s2, s3, s4⟩ : _ ∧ _ ∧ _ ∧ _ ∧ _ := ⟨HM5.out.s0, HM5.out.s1, HM5.out.s2, HM5.out.s3, HM5.out.s4⟩
          have HR6 : Hid (MR Y B H T R (resS E (hit E n q s m))) := by rw [HH.out]; exact HR5.out
          have hok : (hit E n q s m).isSome = false := by rw [HH.out]; rfl
          clear HR5 HH
          go_wp2_with fail
          go_at_call 13
          refine (look_any lit hlit B H n E q s m Y hn hHB HM5.out.cache HM5.out.ents).mono ?_
          rintro e w5 ⟨rfl, hA5⟩
          rw [hok]
          have HF := hide (fin_of (resS_size _ _) HM5.out HR6.out hA5)
          have ht : (w5.alloc (.cells zeroA 47)).there w5.heap.size 0 (resS E (hit E n q s m)).size := by rw [resS_size]; exact there_new w5 zeroA 47
          have hsz : (Yba.prog.info? 47).map (·.size) = some (resS E (hit E n q s m)).size := by rw [resS_size]; exact size47
          have h1c := resS_one E (hit E n q s m)
          have heq := resS_eq E HE.out (hit E n q s m)
          clear hA5 s0 s1 s2 s3 s4 HM5 HR6 HA hok
          generalize resS E (hit E n q s m) = C at HF ht hsz h1c heq ⊢
          have hr1 := HF.out.r1
          have hr2 := HF.out.r2
          have hbl := HF.out.bel
          have hl47 : (Yba.prog.info? 47).map (·.size) = some C.toList.length := by rw [Array.length_toList]; exact hsz
          clear HF
          go_wp2_with (first | refine wpList_store_mid rfl 47 (.tmp 16) (.tmp 68) rfl w5.heap.size 0 C rfl rfl ht hsz h1c ?_ | refine wpList_load_gd (by rfl) 47 (.tmp 16) rfl w5.heap.size 0 rfl C.toList (.array 32 5) hr1 Yba.underlying47 rfl hl47 ?_ | refine wpList_load_gd (by rfl) 47 (.tmp 15) rfl R 0 rfl C.toList (.array 32 5) hr2 Yba.underlying47 rfl hl47 ?_ | fail)
          exact bodyPost_ret (v := .bool true) (by simp [results_tmp Yba.results4]) rfl ⟨rfl, hbl⟩
      · have hh : hit E n q s m = none := by simp only [hit, HA.out, Int.toNat_natCast]; exact if_neg (fun x => q1 x.1)
        have HH := hide hh
        clear hh
        go_wp2_with fail
        go_region_held3 (fun w' => w'.cell? ⟨b, o' + j * 8, none⟩ = some (.int .u8 (E j).dv) ∧ w'.cell? ⟨b, o' + j * 8 + 1, none⟩ = some (.int .u8 (E j).io) ∧ w'.cell? ⟨b, o' + j * 8 + 2, none⟩ = some (.int .u8 (E j).sz) ∧ w'.cell? ⟨b, o' + j * 8 + 3, none⟩ = some (.int .u8 (E j).mt) ∧ w'.cell? ⟨T, 0, none⟩ = some (.int .u64 q.1.1) ∧ w'.cell? ⟨T, 1, none⟩ = some (.int .u64 q.1.2) ∧ w'.cell? ⟨T, 2, none⟩ = some (.int .i64 s) ∧ w'.cell? ⟨T, 3, none⟩ = some (.int .i64 m) ∧ w'.cell? ⟨T, 4, none⟩ = some (.int .i64 0))
          ((go_split_ands; (repeat' apply And.intro) <;> (with_reducible (repeat (first | assumption | refine drw ?_ | refine al ?_ _)))))
          ((go_at_call 10; refine (stat_any _ _ _ _ _ HJ.out.dv HJ.out.io HJ.out.sz HJ.out.mt).mono ?_; rintro e w' ⟨rfl, o2, rfl⟩))
        have HM5 : Hid (MS w (Z.alloc o2).drew (some ⟨b, o', none⟩) n B H T E q s m) := HM4.out.later (below_drw (below_al (Below.refl _ _) _))
        have HR5 : Hid (MR (Z.alloc o2).drew B H T R zeroA) := HR.out.later (below_drw (below_al (Below.refl _ _) _))
        clear HM4 HR s0 s1 s2 s3 s4 c0 c1 c2 c3 c4
        generalize (Z.alloc o2).drew = Y at HM5 HR5 ⊢
        obtain ⟨s0, s1, s2, s3, s4⟩ : _ ∧ _ ∧ _ ∧ _ ∧ _ := ⟨HM5.out.s0, HM5.out.s1, HM5.out.s2, HM5.out.s3, HM5.out.s4⟩
        have HR6 : Hid (MR Y B H T R (resS E (hit E n q s m))) := by rw [HH.out]; exact HR5.out
        have hok : (hit E n q s m).isSome = false := by rw [HH.out]; rfl
        clear HR5 HH
        go_wp2_with fail
        go_at_call 13
        refine (look_any lit hlit B H n E q s m Y hn hHB HM5.out.cache HM5.out.ents).mono ?_
        rintro e w5 ⟨rfl, hA5⟩
        rw [hok]
        have HF := hide (fin_of (resS_size _ _) HM5.out HR6.out hA5)
        have ht : (w5.alloc (.cells zeroA 47)).there w5.heap.size 0 (resS E (hit E n q s m)).size := by rw [resS_size]; exact there_new w5 zeroA 47
        have hsz : (Yba.prog.info? 47).map (·.size) = some (resS E (hit E n q s m)).size := by rw [resS_size]; exact size47
        have h1c := resS_one E (hit E n q s m)
        have heq := resS_eq E HE.out (hit E n q s m)
        clear hA5 s0 s1 s2 s3 s4 HM5 HR6 HA hok
        generalize resS E (hit E n q s m) = C at HF ht hsz h1c heq ⊢
        have hr1 := HF.out.r1
        have hr2 := HF.out.r2
        have hbl := HF.out.bel
        have hl47 : (Yba.prog.info? 47).map (·.size) = some C.toList.length := by rw [Array.length_toList]; exact hsz
        clear HF
        go_wp2_with (first | refine wpList_store_mid rfl 47 (.tmp 16) (.tmp 68) rfl w5.heap.size 0 C rfl rfl ht hsz h1c ?_ | refine wpList_load_gd (by rfl) 47 (.tmp 16) rfl w5.heap.size 0 rfl C.toList (.array 32 5) hr1 Yba.underlying47 rfl hl47 ?_ | refine wpList_load_gd (by rfl) 47 (.tmp 15) rfl R 0 rfl C.toList (.array 32 5) hr2 Yba.underlying47 rfl hl47 ?_ | fail)
        exact bodyPost_ret (v := .bool true) (by simp [results_tmp Yba.results4]) rfl ⟨rfl, hbl⟩
  · go_enter Yba.func4, Yba.ntmps4
    have hn' : ((n : Int) > 1024) := by omega
    go_wp2_with fail
    exact bodyPost_ret (v := .bool true) (by simp [results_tmp Yba.results4]) rfl ⟨rfl, Below.refl _ _⟩
end Go.Proofs.Ybulkbpk
