/- package time, as far as this law goes: a Time without a monotonic reading, wall = nanoseconds, ext = seconds. -/
import Derived.Test.YbulktwiRows
import Derived.WalkKit
import Derived.ProofKit
import Derived.OpenShut
import Derived.WalkSpells
import Derived.Laws.BitsAllLaws
namespace Go.Proofs.Ybulktwi
open Go.ChangeShapes Go.WideShapes Go.ChangeAt Go.RowKit

theorem and63 (x : Int) (h0 : 0 ≤ x) (h1 : x < 1000000000) : bits .and .u64 x 9223372036854775808 = 0 := by
  rw [u64_and x 9223372036854775808 h0 (by omega) (by omega) (by omega)]
  have := nat_bit 63 x.toNat
  rw [show (2 : Nat) ^ 63 = 9223372036854775808 from rfl] at this
  rw [show (9223372036854775808 : Int).toNat = 9223372036854775808 from rfl, this, Nat.div_eq_of_lt (by omega)]
  rfl
theorem and30 (x : Int) (h0 : 0 ≤ x) (h1 : x < 1000000000) : bits .and .u64 x 1073741823 = x := by
  rw [u64_and x 1073741823 h0 (by omega) (by omega) (by omega)]
  have := Nat.and_two_pow_sub_one_eq_mod x.toNat 30
  rw [show (2 : Nat) ^ 30 - 1 = 1073741823 from rfl, show (2 : Nat) ^ 30 = 1073741824 from rfl] at this
  rw [show (1073741823 : Int).toNat = 1073741823 from rfl, this]
  omega
theorem or0 (x : Int) (h0 : 0 ≤ x) (h1 : x < 1000000000) : bits .or .u64 0 x = x := by
  rw [u64_or 0 x (by omega) (by omega) h0 (by omega)]
  simp; omega
theorem and0 (y : Int) (h0 : 0 ≤ y) (h1 : y < 1000000000) (x : Int) (h2 : 0 ≤ x) (h3 : x < 1000000000) : bits .and .u64 (bits .and .u64 x y) 9223372036854775808 = 0 := by
  have h : 0 ≤ bits .and .u64 x y ∧ bits .and .u64 x y < 1000000000 := by
    rw [u64_and x y h2 (by omega) h0 (by omega)]
    have := Nat.and_le_left (n := x.toNat) (m := y.toNat)
    omega
  exact and63 _ h.1 h.2

/-- (*Time).sec -/
theorem sec_any (b : Nat) (x y : Int) (w : World) (h0 : 0 ≤ x) (h1 : x < 1000000000) (hx : w.cell? ⟨b, 0, none⟩ = some (.int .u64 x)) (hy : w.cell? ⟨b, 1, none⟩ = some (.int .i64 y)) :
    Calls Yba.prog 18 #[.pointer (some ⟨b, 0, none⟩)] w fun e w' => e = .returned (.int .i64 y) ∧ w' = w := by
  have hb := and63 x h0 h1
  go_enter Yba.func18, Yba.ntmps18
  go_wp2
  go_ret
  exact ⟨rfl, rfl⟩
/-- (*Time).nsec -/
theorem nsec_any (b : Nat) (x : Int) (w : World) (h0 : 0 ≤ x) (h1 : x < 1000000000) (hx : w.cell? ⟨b, 0, none⟩ = some (.int .u64 x)) :
    Calls Yba.prog 13 #[.pointer (some ⟨b, 0, none⟩)] w fun e w' => e = .returned (.int .i32 x) ∧ w' = w := by
  have hb := and30 x h0 h1
  go_enter Yba.func13, Yba.ntmps13
  go_wp2
  go_ret
  exact ⟨rfl, rfl⟩

/-- a Time with x nanoseconds and y seconds -/
def tm (x y : Int) : Value := .agg #[.int .u64 x, .int .i64 y, .pointer none]
/-- the block of such a Time -/
def tb (x y : Int) : Obj := .cells #[.int .u64 x, .int .i64 y, .pointer none] 29
/-- x1, y1 is later than x2, y2 -/
def laterB (x1 y1 x2 y2 : Int) : Bool := decide (y2 < y1 ∨ (y1 = y2 ∧ x2 < x1))

theorem ret_bool {a b : Bool} (h : a = b) : Ending.returned (.bool a) = .returned (.bool b) := by rw [h]

/-- (Time).After -/
theorem after_any (x1 y1 x2 y2 : Int) (w : World) (a0 : 0 ≤ x1) (a1 : x1 < 1000000000) (b0 : 0 ≤ x2) (b1 : x2 < 1000000000) :
    Calls Yba.prog 16 #[.agg #[.int .u64 x1, .int .i64 y1, .pointer none], .agg #[.int .u64 x2, .int .i64 y2, .pointer none]] w fun e w' =>
      e = .returned (.bool (laterB x1 y1 x2 y2)) ∧ (w.alloc (tb x1 y1)).alloc (tb x2 y2) = w' := by
  have hb := and0 x2 b0 b1 x1 a0 a1
  have f1 := and63 x1 a0 a1
  have f2 := and63 x2 b0 b1
  have g1 := and30 x1 a0 a1
  have g2 := and30 x2 b0 b1
  by_cases c1 : y2 < y1
  · have hd : decide (y2 < y1) = true := by simpa using c1
    go_enter Yba.func16, Yba.ntmps16
    go_wp2
    go_ret
    exact ⟨ret_bool (by unfold laterB; simp; omega), rfl⟩
  · have hd : decide (y2 < y1) = false := by simpa using c1
    by_cases c2 : y1 = y2
    · subst c2
      go_enter Yba.func16, Yba.ntmps16
      go_wp2
      go_ret
      exact ⟨ret_bool (by unfold laterB; simp), rfl⟩
    · have hd2 : (y1 == y2) = false := by simpa using c2
      go_enter Yba.func16, Yba.ntmps16
      go_wp2
      go_ret
      exact ⟨ret_bool (by unfold laterB; simp; omega), rfl⟩
end Go.Proofs.Ybulktwi
