import Derived.Test.YbulktsoRows
import Derived.WalkKit
import Derived.ProofKit
namespace Go.Proofs.Ybulktso
open Go.ChangeShapes Go.WideShapes Go.ChangeAt Go.RowKit

/-- how many dice -/
def kOf (i : Int) : Int :=
  if 4294967296 < i then 1 else if 524288 < i then 2 else if 16384 < i then 3 else if 2048 < i then 4 else if 512 < i then 5
  else if i < 17 then 6 else if 23 < i then 6 else i - 17
/-- the end of the run -/
def eOf (i : Int) : Int :=
  if 4294967296 < i then 4294967296 else if 524288 < i then 524288 else if 16384 < i then 16384 else if 2048 < i then 2048 else if 512 < i then 512 else 22

theorem ret2 {a b c d : Int} (h : a = b) (k : c = d) : Ending.returned (.tuple #[.int .i64 a, .int .u64 c]) = .returned (.tuple #[.int .i64 b, .int .u64 d]) := by rw [h, k]

theorem batchRun_any (i : Int) (h0 : 0 ≤ i) (h1 : i ≤ 18446744073709551615) (w : World) :
    Calls Yba.prog 5 #[.int .u64 i] w fun e w' => e = .returned (.tuple #[.int .i64 (kOf i), .int .u64 (eOf i)]) ∧ w' = w := by
  by_cases c2 : 4294967296 < i
  · go_enter Yba.func5, Yba.ntmps5
    go_wp2
    go_ret2
    exact ⟨ret2 (by unfold kOf; omega) (by unfold eOf; omega), rfl⟩
  by_cases c3 : 524288 < i
  · go_enter Yba.func5, Yba.ntmps5
    go_wp2
    go_ret2
    exact ⟨ret2 (by unfold kOf; omega) (by unfold eOf; omega), rfl⟩
  by_cases c4 : 16384 < i
  · go_enter Yba.func5, Yba.ntmps5
    go_wp2
    go_ret2
    exact ⟨ret2 (by unfold kOf; omega) (by unfold eOf; omega), rfl⟩
  by_cases c5 : 2048 < i
  · go_enter Yba.func5, Yba.ntmps5
    go_wp2
    go_ret2
    exact ⟨ret2 (by unfold kOf; omega) (by unfold eOf; omega), rfl⟩
  by_cases c6 : 512 < i
  · go_enter Yba.func5, Yba.ntmps5
    go_wp2
    go_ret2
    exact ⟨ret2 (by unfold kOf; omega) (by unfold eOf; omega), rfl⟩
  go_enter Yba.func5, Yba.ntmps5
  go_wp2
  all_goals
    go_ret2
    rw [IntKind.wrap_u64] at *
    exact ⟨ret2 (by unfold kOf wrap64; omega) (by unfold eOf; omega), rfl⟩
end Go.Proofs.Ybulktso
