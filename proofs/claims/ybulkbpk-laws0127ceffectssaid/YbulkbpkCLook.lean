import Derived.Test.YbulkbpkCLookup
namespace Go.Proofs.Ybulkbpk
open Go.RowKit Go.Maps

theorem IsCache.lock {L L' : Int} {w : World} {B H n : Nat} {mp : Option Nat} (h : IsCache L w B H n mp) : IsCache L' (w.setCell ⟨B, 0, none⟩ (.int .i32 L')) B H n mp := by
  obtain ⟨c0, c1, c2, c3, f0, f3, lt, ltH⟩ := h
  refine ⟨World.cell?_setCell_same _ _ _ c0, ?_, ?_, ?_, by simpa using f0, by simpa using f3, by simpa using lt, by simpa using ltH⟩
  all_goals (rw [World.cell?_setCell_other _ _ _ _ (by intro e2; injection e2 with _ e3 _; omega)]; assumption)

theorem resS_size (E : Nat → Ent) (h : Option Nat) : (resS E h).size = 32 := by cases h <;> rfl
theorem resS_one (E : Nat → Ent) (h : Option Nat) : (resS E h).all (·.oneCell') = true := by
  cases h with
  | none => exact zeroA_one
  | some j => exact sumA_one _
theorem Aft.unlock {w Y Z : World} {B H n R : Nat} {E : Nat → Ent} {h : Option Nat} (a : Aft 1 Y Z B H n E h) (hb : But H B w Y) (hHB : H < B) (hR : w.heap.size ≤ R) (hB : B < w.heap.size) (cs : List Value) :
    Aft 0 w ((Z.setCells R 0 cs).setCell ⟨B, 0, none⟩ (.int .i32 0)) B H n E h := by
  have hw := wrote_setCells (b := R) cs 0 Z (Wrote.refl R Z)
  obtain ⟨mp, hc⟩ := a.cache
  have hc' : IsCache 1 (Z.setCells R 0 cs) B H n mp := hc.block (hw.block B (by omega)) (by rw [hw.size]; exact Nat.le_refl _)
  exact ⟨⟨mp, hc'.lock⟩, fun j hj => ((a.ents j hj).block (hw.block H (by omega))).setFar (Nat.ne_of_lt hHB) _,
    ((hb.trans a.bel).wrote hw (Or.inr (Or.inr hR))).wrote (wrote_set B 0 _ _) (Or.inr (Or.inl rfl))⟩
theorem res_load' (Z : World) (R B : Nat) (C : Array Value) (hC : C.size = 32) (ht : Z.there R 0 32) (hR : R ≠ B) (v : Value) : (loadVar 47 ⟨R, 0, none⟩).run Yba.prog ((Z.setCells R 0 C.toList).setCell ⟨B, 0, none⟩ v) = .ok (.agg C) ((Z.setCells R 0 C.toList).setCell ⟨B, 0, none⟩ v) := by
  have hlen : C.toList.length = 32 := by rw [Array.length_toList]; exact hC
  have hr := World.rangeAt_setCells_same Z R 0 C.toList (by rw [hlen]; exact ht)
  have hr' : ((Z.setCells R 0 C.toList).setCell ⟨B, 0, none⟩ v).rangeAt R 0 C.toList := fun j x hx =>
    (World.cell?_setCell_other _ _ _ _ (by intro e2; injection e2 with e3 _ _; exact hR e3.symm)).trans (hr j x hx)
  exact run_loadVar_mid (P := Yba.prog) _ R 0 47 C.toList (.array 32 5) hr' Yba.underlying47 rfl (by rw [hlen]; exact size47)
theorem Aft.held {w Z : World} {B H n R : Nat} {E : Nat → Ent} {h : Option Nat} (a : Aft 1 w Z B H n E h) (hB : B ≠ R) (cs : List Value) :
    (Z.setCells R 0 cs).cell? ⟨B, 0, none⟩ = some (.int .i32 1) ∧ (Z.setCells R 0 cs).frozen? ⟨B, 0, none⟩ = false := by
  have hw := wrote_setCells (b := R) cs 0 Z (Wrote.refl R Z)
  obtain ⟨mp, hc⟩ := a.cache
  have hc' : IsCache 1 (Z.setCells R 0 cs) B H n mp := hc.block (hw.block B hB) (by rw [hw.size]; exact Nat.le_refl _)
  exact ⟨hc'.c0, hc'.f0⟩

set_option maxRecDepth 100000 in
set_option maxHeartbeats 2000000 in
theorem look_any (lit : Id → Lit) (hlit : LitOk lit) (B H n : Nat) (E : Nat → Ent) (a : Id) (s m : Int) (w : World) (hn : n ≤ 1024) (hHB : H < B) (hc : IsCache 0 w B H n none) (hE : ∀ j, j < n → SE w H j (E j) (E j).pl (E j).us (E j).gn) :
    Calls Yba.prog 13 #[.pointer (some ⟨B, 0, none⟩), .agg #[.int .u64 a.1.1, .int .u64 a.1.2, .int .i64 s, .int .i64 m, .int .i64 0]] w fun e w' =>
      e = .returned (.tuple #[.agg (resS E (hit E n a s m)), .bool (hit E n a s m).isSome]) ∧ Aft 0 w w' B H n E (hit E n a s m) := by
  have hBl := hc.lt
  have hHl := hc.ltH
  have HC := hide hc
  have HE := hide hE
  have h1 := hc.c0
  have f1 := hc.f0
  clear hc hE
  go_enter_defers Yba.func13, Yba.ntmps13
  go_wp2_with fail
  generalize hX : World.alloc (World.alloc w _) _ = X
  have HBeg : Hid (Beg w X a s m) := by rw [← hX]; exact beg w a s m 0
  clear hX
  obtain ⟨hbel, b0, b1, b2, b3, b4, hres, hlt⟩ := HBeg.out
  have HCX := hide (HC.out.below hbel hBl)
  have HEX := hide (show ∀ j, j < n → SE X H j (E j) (E j).pl (E j).us (E j).gn from fun j hj => ((HE.out j hj).below hbel hHl))
  have hx0 := HCX.out.c0
  have hxf := HCX.out.f0
  clear h1 f1 HC HE
  have HCL : Hid (IsCache 1 (X.setCell ⟨B, 0, none⟩ (.int .i32 1)) B H n none) := HCX.out.lock
  have HEL : Hid (∀ j, j < n → SE (X.setCell ⟨B, 0, none⟩ (.int .i32 1)) H j (E j) (E j).pl (E j).us (E j).gn) := fun j hj => (HEX.out j hj).setFar (Nat.ne_of_lt hHB) _
  have hBut1 : But H B X (X.setCell ⟨B, 0, none⟩ (.int .i32 1)) := (But.refl H B X).wrote (wrote_set B 0 X _) (Or.inr (Or.inl rfl))
  have HRd : Hid (Rd w (X.setCell ⟨B, 0, none⟩ (.int .i32 1)) a s m) := HBeg.out.rd hBut1 hHl hBl
  have HB1 : Hid (But H B w (X.setCell ⟨B, 0, none⟩ (.int .i32 1))) := (But.mk hbel.os hbel.tape hbel.output hbel.size (fun b hb _ _ => hbel.block b hb) : But H B w X).trans hBut1
  clear hBut1 HEX HCX hbel b0 b1 b2 b3 b4 hres
  go_at_call 14
  refine (Go.MuLone.lock_free muLib ⟨B, 0, none⟩ _ hx0 hxf).mono ?_
  rintro e w1 ⟨rfl, rfl⟩
  clear hx0 hxf HBeg
  generalize X.setCell ⟨B, 0, none⟩ (.int .i32 1) = Y at HCL HEL HRd HB1 ⊢
  obtain ⟨b0, b1, b2, b3, b4, hres⟩ := HRd.out
  go_wp2_with fail
  go_at_call 16
  refine (lookup_any 1 lit hlit B H n E a s m Y hn hHB HCL.out HEL.out).mono ?_
  rintro e w1 ⟨rfl, hA⟩
  have HA := hide hA
  clear hA b0 b1 b2 b3 b4
  have ht : w1.there (w.heap.size + 1) 0 (resS E (hit E n a s m)).size := by rw [resS_size]; exact HA.out.bel.there hres (by omega) (by omega)
  have hsz : (Yba.prog.info? 47).map (·.size) = some (resS E (hit E n a s m)).size := by rw [resS_size]; exact size47
  have h1c := resS_one E (hit E n a s m)
  have HHeld := hide (HA.out.held (R := w.heap.size + 1) (by omega) (resS E (hit E n a s m)).toList)
  have HUn := hide (HA.out.unlock (R := w.heap.size + 1) HB1.out hHB (Nat.le_succ _) hBl (resS E (hit E n a s m)).toList)
  have HLd := hide (res_load' w1 (w.heap.size + 1) B (resS E (hit E n a s m)) (resS_size _ _) (by rw [← resS_size E (hit E n a s m)]; exact ht) (by omega) (.int .i32 0))
  generalize hC : resS E (hit E n a s m) = C at ht hsz h1c HHeld HUn HLd ⊢
  have HCe := hide hC
  clear hC HA hres HRd HCL HEL
  go_wp2_with (first | refine wpList_store_mid rfl 47 (.tmp 4) (.tmp 16) rfl (w.heap.size+1) 0 C rfl rfl ht hsz h1c ?_ | fail)
  refine leaves_cons (f := 15) (args := #[.pointer (some ⟨B, 0, none⟩)]) (by simp) (by simp [go_sem]) ?_
  refine (Go.MuLone.unlock_deferred muLib ⟨B, 0, none⟩ .returning _ HHeld.out.1 HHeld.out.2).mono ?_
  rintro e u' w'' ⟨rfl, rfl, rfl⟩
  refine ⟨_, results_cell_tmp1 Yba.results13 _ _ _ (w.heap.size+1) rfl rfl HLd.out, ?_, HUn.out⟩
  rw [HCe.out]
  rfl
end Go.Proofs.Ybulkbpk
