import Derived.Test.YbulkbpkCEnts
namespace Go.Proofs.Ybulkbpk
open Go.RowKit Go.Maps
theorem size68 : (Yba.prog.info? 68).map (·.size) = some 41 := by kernel_rfl
/-- The store of a row of cells, kept whole. -/
def storeRow (a : Addr) (l : List Value) : Sem Unit := storeCells a l
theorem storeRow_eq (a : Addr) (l : List Value) : storeCells a l = storeRow a l := rfl
theorem storeRow_any (b o : Nat) (l : List Value) (w : World) (ht : w.there b o l.length) (h1 : l.all (·.oneCell') = true) : (storeRow ⟨b, o, none⟩ l).run Yba.prog w = .ok () (w.setCells b o l) := by
  have := run_storeCells_cells (P := Yba.prog) b o l 0 w (fun j hj => by simpa using (ht j hj).1) (fun j hj => by simpa using (ht j hj).2) (fun v hv => List.all_eq_true.1 h1 v hv)
  simpa [storeRow] using this
theorem storeRow_run (x0 x1 x2 x3 x4 x5 y0 y1 y2 y3 y4 y5 y6 y7 y8 y9 y10 y11 y12 y13 y14 y15 y16 y17 y18 y19 y20 y21 y22 y23 y24 y25 y26 y27 y28 y29 y30 y31 p : Int) (u g : Bool) (b o : Nat) (w : World) (ht : w.there b o 41) :
    (storeRow ⟨b, o, none⟩ (.int .u64 x0 :: .int .u64 x1 :: .int .u64 x2 :: .int .i64 x3 :: .int .i64 x4 :: .int .i64 x5 :: .int .u8 y0 :: .int .u8 y1 :: .int .u8 y2 :: .int .u8 y3 :: .int .u8 y4 :: .int .u8 y5 :: .int .u8 y6 :: .int .u8 y7 :: .int .u8 y8 :: .int .u8 y9 :: .int .u8 y10 :: .int .u8 y11 :: .int .u8 y12 :: .int .u8 y13 :: .int .u8 y14 :: .int .u8 y15 :: .int .u8 y16 :: .int .u8 y17 :: .int .u8 y18 :: .int .u8 y19 :: .int .u8 y20 :: .int .u8 y21 :: .int .u8 y22 :: .int .u8 y23 :: .int .u8 y24 :: .int .u8 y25 :: .int .u8 y26 :: .int .u8 y27 :: .int .u8 y28 :: .int .u8 y29 :: .int .u8 y30 :: .int .u8 y31 :: .int .i64 p :: .bool u :: .bool g :: [])).run Yba.prog w = .ok () (w.setCells b o (.int .u64 x0 :: .int .u64 x1 :: .int .u64 x2 :: .int .i64 x3 :: .int .i64 x4 :: .int .i64 x5 :: .int .u8 y0 :: .int .u8 y1 :: .int .u8 y2 :: .int .u8 y3 :: .int .u8 y4 :: .int .u8 y5 :: .int .u8 y6 :: .int .u8 y7 :: .int .u8 y8 :: .int .u8 y9 :: .int .u8 y10 :: .int .u8 y11 :: .int .u8 y12 :: .int .u8 y13 :: .int .u8 y14 :: .int .u8 y15 :: .int .u8 y16 :: .int .u8 y17 :: .int .u8 y18 :: .int .u8 y19 :: .int .u8 y20 :: .int .u8 y21 :: .int .u8 y22 :: .int .u8 y23 :: .int .u8 y24 :: .int .u8 y25 :: .int .u8 y26 :: .int .u8 y27 :: .int .u8 y28 :: .int .u8 y29 :: .int .u8 y30 :: .int .u8 y31 :: .int .i64 p :: .bool u :: .bool g :: [])) := by
  exact storeRow_any b o _ w ht (by simp [Value.oneCell'])
end Go.Proofs.Ybulkbpk
