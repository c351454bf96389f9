import Derived.Test.YbulkttqRows
import Derived.WalkKit
namespace Go.Proofs.Ybulkttq

/-- the zero shard, cell by cell -/
def zshard : Array Value := (#[.int .i32 0, .int .u32 0, .pointer none, .map none, .map none, .map none] ++ Array.replicate 33 (.int .i64 0)) ++ Array.replicate 128 (.int .u8 0)

theorem zero40 (w : World) : (zeroValue 40).run Yba.prog w = .ok (.agg zshard) w := by kernel_rfl
theorem zshard_size : zshard.size = 167 := by kernel_rfl
theorem zshard_lows (j : Nat) (h : j < 32) : zshard[6 + j]? = some (.int .i64 0) := by
  unfold zshard
  rw [Array.getElem?_append_left (by simp; omega), Array.getElem?_append_right (by simp)]
  rw [Array.getElem?_replicate, if_pos (by simp; omega)]
end Go.Proofs.Ybulkttq
