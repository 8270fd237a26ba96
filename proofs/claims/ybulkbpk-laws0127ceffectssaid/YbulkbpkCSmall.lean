import Derived.Test.YbulkbpkRows
import Derived.Test.YbulkbpkMaps
import Derived.Deep.MidRow
namespace Go.Proofs.Ybulkbpk
open Go.RowKit Go.Maps

/-- A stat as zzs0127cstat makes it. -/
def stL (d i s m : Int) : Array Value := #[.int .u64 d, .int .u64 i, .int .i64 s, .int .i64 m, .int .i64 0]

set_option maxHeartbeats 400000 in
theorem stat_any (d i s m : Int) (w : World) (hd : 0 ≤ d ∧ d ≤ 255) (hi : 0 ≤ i ∧ i ≤ 255) (hs : 0 ≤ s ∧ s ≤ 255) (hm : 0 ≤ m ∧ m ≤ 255) :
    Calls Yba.prog 10 #[.int .u8 d, .int .u8 i, .int .u8 s, .int .u8 m] w fun e w' => e = .returned (.agg #[.int .u64 (d % 2), .int .u64 (i % 3), .int .i64 (s % 2), .int .i64 (m % 2), .int .i64 0]) ∧ ∃ o, w.alloc o = w' := by
  obtain ⟨d0, d1⟩ := hd
  obtain ⟨i0, i1⟩ := hi
  obtain ⟨s0, s1⟩ := hs
  obtain ⟨m0, m1⟩ := hm
  go_enter Yba.func10, Yba.ntmps10
  go_wp2
  exact bodyPost_ret (v := .agg #[.int .u64 (d % 2), .int .u64 (i % 3), .int .i64 (s % 2), .int .i64 (m % 2), .int .i64 0]) (by simp [results, Yba.results10, go_sem]) rfl ⟨rfl, _, rfl⟩

set_option maxHeartbeats 400000 in
theorem id_any (d i s m c : Int) (w : World) :
    Calls Yba.prog 19 #[.agg #[.int .u64 d, .int .u64 i, .int .i64 s, .int .i64 m, .int .i64 c]] w fun e w' => e = .returned (.agg #[.int .u64 d, .int .u64 i]) ∧ ∃ o1 o2, (w.alloc o1).alloc o2 = w' := by
  go_enter Yba.func19, Yba.ntmps19
  go_wp2
  exact bodyPost_ret (v := .agg #[.int .u64 d, .int .u64 i]) (by simp [results, Yba.results19, go_sem]) rfl ⟨rfl, _, _, rfl⟩
end Go.Proofs.Ybulkbpk
