/- package time, continued: Before, IsZero, addSec, Add. -/
import Derived.Test.YbulktwiTime
namespace Go.Proofs.Ybulktwi
open Go.ChangeShapes Go.WideShapes Go.ChangeAt Go.RowKit

/-- (Time).Before -/
theorem before_any (x1 y1 x2 y2 : Int) (w : World) (a0 : 0 ≤ x1) (a1 : x1 < 1000000000) (b0 : 0 ≤ x2) (b1 : x2 < 1000000000) :
    Calls Yba.prog 20 #[.agg #[.int .u64 x1, .int .i64 y1, .pointer none], .agg #[.int .u64 x2, .int .i64 y2, .pointer none]] w fun e w' =>
      e = .returned (.bool (laterB x2 y2 x1 y1)) ∧ (w.alloc (tb x1 y1)).alloc (tb x2 y2) = w' := by
  have hb := and0 x2 b0 b1 x1 a0 a1
  have f1 := and63 x1 a0 a1
  have f2 := and63 x2 b0 b1
  have g1 := and30 x1 a0 a1
  have g2 := and30 x2 b0 b1
  by_cases c1 : y1 < y2
  · have hd : decide (y1 < y2) = true := by simpa using c1
    go_enter Yba.func20, Yba.ntmps20
    go_wp2
    go_ret
    exact ⟨ret_bool (by unfold laterB; simp; omega), rfl⟩
  · have hd : decide (y1 < y2) = false := by simpa using c1
    by_cases c2 : y1 = y2
    · subst c2
      go_enter Yba.func20, Yba.ntmps20
      go_wp2
      go_ret
      exact ⟨ret_bool (by unfold laterB; simp), rfl⟩
    · have hd2 : (y1 == y2) = false := by simpa using c2
      go_enter Yba.func20, Yba.ntmps20
      go_wp2
      go_ret
      exact ⟨ret_bool (by unfold laterB; simp; omega), rfl⟩

/-- (Time).IsZero -/
theorem isZero_any (x y : Int) (w : World) :
    Calls Yba.prog 19 #[.agg #[.int .u64 x, .int .i64 y, .pointer none]] w fun e w' => e = .returned (.bool (x == 0 && y == 0)) ∧ w.alloc (tb x y) = w' := by
  by_cases c : x = 0
  · have hd : (x == 0) = true := by simpa using c
    clear c
    go_enter Yba.func19, Yba.ntmps19
    go_wp2
    go_ret
    exact ⟨ret_bool (by rw [hd]; simp), rfl⟩
  · have hd : (x == 0) = false := by simpa using c
    clear c
    go_enter Yba.func19, Yba.ntmps19
    go_wp2
    go_ret
    exact ⟨ret_bool (by rw [hd]; simp), rfl⟩

/-- (*Time).addSec on a Time of zero seconds -/
theorem addSec_zero (b : Nat) (x d : Int) (w : World) (h0 : 0 ≤ x) (h1 : x < 1000000000) (d0 : -9223372036854775808 ≤ d) (d1 : d ≤ 9223372036854775807)
    (hx : w.cell? ⟨b, 0, none⟩ = some (.int .u64 x)) (hy : w.cell? ⟨b, 1, none⟩ = some (.int .i64 0)) (hf : w.frozen? ⟨b, 1, none⟩ = false) :
    Calls Yba.prog 14 #[.pointer (some ⟨b, 0, none⟩), .int .i64 d] w fun e w' => e = .returned (.tuple #[]) ∧ w.setCell ⟨b, 1, none⟩ (.int .i64 d) = w' := by
  have hb := and63 x h0 h1
  go_enter Yba.func14, Yba.ntmps14
  go_wp2
  go_end0
  exact ⟨rfl, rfl⟩
end Go.Proofs.Ybulktwi
