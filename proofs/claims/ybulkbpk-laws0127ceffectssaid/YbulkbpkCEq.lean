import Derived.Test.YbulkbpkCSum
import Derived.Laws.StructEq
import Derived.Stop.BytesEq
namespace Go.Proofs.Ybulkbpk
open Go.RowKit Go.Maps
open Go.Extern.Stop (cell)

/-- What '==' says of two stats. -/
theorem eq43 (a b c d e a' b' c' d' e' : Int) (w : World) : (Op.equalIn 10000 43 (.agg #[.int .u64 a, .int .u64 b, .int .i64 c, .int .i64 d, .int .i64 e]) (.agg #[.int .u64 a', .int .u64 b', .int .i64 c', .int .i64 d', .int .i64 e'])).run Yba.prog w = .ok (a == a' && (b == b' && (c == c' && (d == d' && e == e')))) w := by
  have hS : Yba.prog.underlying 43 = some (.struct (Yba.prog.fieldsOf 43)) := by kernel_rfl
  have hp : Yba.prog.stoodInHeld 43 = false := by kernel_rfl
  rw [show (10000 : Nat) = 9999 + 1 from rfl, run_equalIn_agg w 9999 43 _ _ hS hp]
  simp only [Program.fieldsOf, Yba.underlying43]
  go_simp
  by_cases h1 : a = a' <;> by_cases h2 : b = b' <;> by_cases h3 : c = c' <;> by_cases h4 : d = d' <;> by_cases h5 : e = e' <;> simp [h1, h2, h3, h4, h5]

theorem guard43 : Yba.prog.eqGuardType Yba.prog.depth 43 = false := by kernel_rfl
theorem guard47 : Yba.prog.eqGuardType Yba.prog.depth 47 = false := by kernel_rfl

def sumL (b : Int) : List UInt8 := [UInt8.ofNat b.toNat, 0, 0, 0, 0, 0, 0, 0, 0, 0, 0, 0, 0, 0, 0, 0, 0, 0, 0, 0, 0, 0, 0, 0, 0, 0, 0, 0, 0, 0, 0, UInt8.ofNat ((b + 1) % 256).toNat]
theorem sumL_cells (b : Int) (h0 : 0 ≤ b) (h1 : b < 256) : ((sumL b).map cell).toArray = sumA b := by
  simp [sumL, sumA, cell]
  omega
theorem zeroL_cells : ((List.replicate 32 (0 : UInt8)).map cell).toArray = zeroA := rfl
theorem eql_sum (b : Int) (h0 : 0 ≤ b) (h1 : b < 256) (w : World) : (binOp .eql 47 (.agg (sumA b)) (.agg (sumA b))).run Yba.prog w = .ok (.bool true) w := by
  rw [← sumL_cells b h0 h1, run_eql_bytes w 47 5 32 Yba.underlying47 Yba.underlying5 (fun w => by go_simp) _ _ rfl rfl]
  simp
theorem eql_zero (w : World) : (binOp .eql 47 (.agg zeroA) (.agg zeroA)).run Yba.prog w = .ok (.bool true) w := by
  rw [← zeroL_cells, run_eql_bytes w 47 5 32 Yba.underlying47 Yba.underlying5 (fun w => by go_simp) _ _ rfl rfl]
  simp
theorem neq_sum (b : Int) (h0 : 0 ≤ b) (h1 : b < 256) (w : World) : (binOp .neq 47 (.agg (sumA b)) (.agg (sumA b))).run Yba.prog w = .ok (.bool false) w := by
  rw [← sumL_cells b h0 h1, run_neq_struct, run_equalIn_bytes w 9998 47 5 32 Yba.underlying47 Yba.underlying5 (fun w => by go_simp) _ _ rfl rfl]
  simp
end Go.Proofs.Ybulkbpk
