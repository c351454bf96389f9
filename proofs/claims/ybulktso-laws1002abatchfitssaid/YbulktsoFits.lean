/- The plain law behind 'LawS1002ABatchFits': the product of the die sizes of one batch stays below 2^64. No Go in sight but kOf. -/
import Derived.Test.YbulktsoBatch
import Derived.Test.YbulktsoShelf
namespace Go.Proofs.Ybulktso
open Go.ChangeShapes Go.WideShapes Go.ChangeAt Go.RowKit

/-- m * (m - 1) * .. , n factors -/
def prodTo (m : Nat) : Nat → Nat
  | 0 => 1
  | n + 1 => prodTo m n * (m - n)

theorem prodTo_le (m B : Nat) (h : m ≤ B) : ∀ n, prodTo m n ≤ B ^ n
  | 0 => by simp [prodTo]
  | n + 1 => by
    rw [prodTo, Nat.pow_succ]
    exact Nat.mul_le_mul (prodTo_le m B h n) (by omega)

theorem prodTo_le' (m B n k : Nat) (h : m ≤ B) (hB : 0 < B) (hn : n ≤ k) : prodTo m n ≤ B ^ k :=
  Nat.le_trans (prodTo_le m B h n) (Nat.pow_le_pow_right hB hn)

theorem fits (m n : Nat) (h : 17 < m) (h1 : m < 18446744073709551616) (hn : (n : Int) < kOf m) : prodTo m (n + 1) < 18446744073709551616 := by
  by_cases c2 : 4294967296 < m
  · have e : kOf m = 1 := by unfold kOf; omega
    have hn0 : n = 0 := by omega
    subst hn0
    simp [prodTo]
    exact h1
  by_cases c3 : 524288 < m
  · have e : kOf m = 2 := by unfold kOf; omega
    have hn0 : n = 0 ∨ n = 1 := by omega
    rcases hn0 with rfl | rfl
    · simp [prodTo]; exact h1
    · simp [prodTo]
      have := Nat.mul_le_mul (show m ≤ 4294967296 by omega) (show m - 1 ≤ 4294967295 by omega)
      omega
  by_cases c4 : 16384 < m
  · have e : kOf m = 3 := by unfold kOf; omega
    have := prodTo_le' m 524288 (n + 1) 3 (by omega) (by omega) (by omega)
    omega
  by_cases c5 : 2048 < m
  · have e : kOf m = 4 := by unfold kOf; omega
    have := prodTo_le' m 16384 (n + 1) 4 (by omega) (by omega) (by omega)
    omega
  by_cases c6 : 512 < m
  · have e : kOf m = 5 := by unfold kOf; omega
    have := prodTo_le' m 2048 (n + 1) 5 (by omega) (by omega) (by omega)
    omega
  have e : kOf m ≤ 6 := by unfold kOf; omega
  have := prodTo_le' m 512 (n + 1) 6 (by omega) (by omega) (by omega)
  omega

theorem kOf_range (i : Int) (h : 17 < i) : 1 ≤ kOf i ∧ kOf i ≤ 6 ∧ kOf i ≤ i - 17 := by unfold kOf; omega

/-- bits.Mul64 where the product fits: over Int, the product under a name of its own -/
theorem mul_fits (x y z : Nat) (X Y : Int) (hX : X = x) (hY : Y = y) (hx : x < 18446744073709551616) (hy : y < 18446744073709551616) (hz : x * y = z) (hlt : z < 18446744073709551616) (w : World) :
    Calls Yba.prog 7 #[.int .u64 X, .int .u64 Y] w fun e w' => e = .returned (.tuple #[.int .u64 0, .int .u64 (z : Int)]) ∧ w' = w := by
  subst hX hY hz
  refine (Yba.bits_Mul64 x y hx hy w).mono ?_
  rintro e w' ⟨he, hw⟩
  rw [Nat.div_eq_of_lt hlt, Nat.mod_eq_of_lt hlt] at he
  exact ⟨he, hw⟩
end Go.Proofs.Ybulktso
