import Derived.Test.YbulkbpkCSmall
namespace Go.Proofs.Ybulkbpk
open Go.RowKit Go.Maps

/-- The bytes of a sum as zzs0127csum makes it. -/
def sumA (b : Int) : Array Value := #[.int .u8 b, .int .u8 0, .int .u8 0, .int .u8 0, .int .u8 0, .int .u8 0, .int .u8 0, .int .u8 0, .int .u8 0, .int .u8 0, .int .u8 0, .int .u8 0, .int .u8 0, .int .u8 0, .int .u8 0, .int .u8 0,
  .int .u8 0, .int .u8 0, .int .u8 0, .int .u8 0, .int .u8 0, .int .u8 0, .int .u8 0, .int .u8 0, .int .u8 0, .int .u8 0, .int .u8 0, .int .u8 0, .int .u8 0, .int .u8 0, .int .u8 0, .int .u8 ((b + 1) % 256)]
/-- The bytes of Sum{}. -/
def zeroA : Array Value := #[.int .u8 0, .int .u8 0, .int .u8 0, .int .u8 0, .int .u8 0, .int .u8 0, .int .u8 0, .int .u8 0, .int .u8 0, .int .u8 0, .int .u8 0, .int .u8 0, .int .u8 0, .int .u8 0, .int .u8 0, .int .u8 0,
  .int .u8 0, .int .u8 0, .int .u8 0, .int .u8 0, .int .u8 0, .int .u8 0, .int .u8 0, .int .u8 0, .int .u8 0, .int .u8 0, .int .u8 0, .int .u8 0, .int .u8 0, .int .u8 0, .int .u8 0, .int .u8 0]
theorem sumA_size (b : Int) : (sumA b).size = 32 := rfl
theorem zeroA_size : zeroA.size = 32 := rfl
theorem sumA_one (b : Int) : (sumA b).all (·.oneCell') = true := by simp [sumA, Value.oneCell']
theorem zeroA_one : zeroA.all (·.oneCell') = true := by simp [zeroA, Value.oneCell']
theorem size47 : (Yba.prog.info? 47).map (·.size) = some 32 := by kernel_rfl

theorem range_new (w : World) (C : Array Value) (t : TypeId) : (w.alloc (.cells C t)).rangeAt w.heap.size 0 C.toList := fun j v hv => by
  rw [World.cell?_alloc_at _ _ _ _ rfl]
  simpa using hv
theorem there_new (w : World) (C : Array Value) (t : TypeId) : (w.alloc (.cells C t)).there w.heap.size 0 C.size := fun j hj => by
  rw [World.cell?_alloc_at _ _ _ _ rfl, World.frozen?_alloc_at _ _ _ _ rfl]
  simp [hj]
theorem below_setCells {B : Nat} {a w : World} (h : Below B a w) {b : Nat} (hb : B ≤ b) : ∀ (vs : List Value) (o : Nat), Below B a (w.setCells b o vs) := by
  intro vs
  induction vs generalizing w with
  | nil => intro o; exact h
  | cons v r ih => intro o; exact ih (h.setCell (p := ⟨b, o, none⟩) hb v) (o + 1)
theorem size_setCells (b : Nat) : ∀ (vs : List Value) (o : Nat) (w : World), (w.setCells b o vs).heap.size = w.heap.size
  | [], _, _ => rfl
  | v :: r, o, w => by rw [World.setCells, size_setCells b r (o + 1)]; simp

theorem results_cell1 {fn : Func} {p : Tmp} {ty : TypeId} (h : fn.results = #[.cell p ty]) (tmps : Array Value) (P : Program) (w : World) (b : Nat) (hp : tmps.getD p undef = .pointer (some ⟨b, 0, none⟩)) {v : Value}
    (hl : (loadVar ty ⟨b, 0, none⟩).run P w = .ok v w) : (results fn tmps).run P w = .ok v w := by
  have hp' : tmps[p]?.getD undef = .pointer (some ⟨b, 0, none⟩) := by rw [← hp]; simp
  simp only [results, h]
  simp [hp', asAddr, hl]
theorem results_cell_tmp1 {fn : Func} {p u : Tmp} {ty : TypeId} (h : fn.results = #[.cell p ty, .tmp u]) (tmps : Array Value) (P : Program) (w : World) (b : Nat) (hp : tmps.getD p undef = .pointer (some ⟨b, 0, none⟩)) {v x : Value} (hx : tmps.getD u undef = x)
    (hl : (loadVar ty ⟨b, 0, none⟩).run P w = .ok v w) : (results fn tmps).run P w = .ok (.tuple #[v, x]) w := by
  rw [results_cell_tmp h, hp, hx]
  simp [asAddr, hl]

set_option maxHeartbeats 400000 in
theorem sum_any (b : Int) (w : World) :
    Calls Yba.prog 12 #[.int .u8 b] w fun e w' => e = .returned (.agg (sumA b)) ∧ Below w.heap.size w w' := by
  go_enter Yba.func12, Yba.ntmps12
  go_wp2_with (first
    | refine wpList_load_mid rfl 47 (.tmp 3) rfl (w.heap.size + 1) 0 rfl (sumA b).toList (.array 32 5) ?h1 Yba.underlying47 rfl size47 ?_
    | refine wpList_store_mid rfl 47 (.tmp 2) (.tmp 9) rfl w.heap.size 0 (sumA b) rfl rfl ?h2 size47 (sumA_one b) ?_)
  case h1 =>
    have h := range_new (w.alloc (.cells zeroA 47)) (sumA b) 47
    rw [World.size_alloc] at h
    exact h
  case h2 => exact World.there_alloc (there_new w zeroA 47) _
  have ht : (((w.alloc (.cells zeroA 47)).alloc (.cells (sumA b) 47)).there w.heap.size 0 (sumA b).toList.length) := World.there_alloc (there_new w zeroA 47) _
  have hl := run_loadVar_mid (P := Yba.prog) _ w.heap.size 0 47 (sumA b).toList (.array 32 5) (World.rangeAt_setCells_same ((w.alloc (.cells zeroA 47)).alloc (.cells (sumA b) 47)) w.heap.size 0 (sumA b).toList ht) Yba.underlying47 rfl size47
  refine bodyPost_ret (v := .agg (sumA b)) ?_ rfl ⟨rfl, ?_⟩
  · exact results_cell1 Yba.results12 _ _ _ w.heap.size rfl hl
  · exact below_setCells (((Below.refl _ _).alloc (Nat.le_refl _) _).alloc (by simp) _) (Nat.le_refl _) _ _
end Go.Proofs.Ybulkbpk
